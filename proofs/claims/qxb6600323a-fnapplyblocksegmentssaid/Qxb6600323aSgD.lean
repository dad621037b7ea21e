import Derived.Test.Qxb6600323aSgB
import Derived.Test.Qxb6600323aSgC
import Derived.Test.Qxb6600323aApH
namespace Go.Proofs.Qxb6600323a
open Go.RowKit
set_option linter.unusedVariables false
set_option linter.unusedSimpArgs false
attribute [local go_sem ↓] Go.wp_at_zero Go.wp_at_succ

theorem OpsAt.congrS {w : World} {a : Option Addr} {n n' : Nat} {aI : Nat → Option Addr} {nI nI' cI : Nat → Nat} {oo : Nat → Nat → Int} (h : OpsAt w a n aI nI cI oo) (hn : n' = n) (hI : ∀ i, i < n' → nI' i = nI i) : OpsAt w a n' aI nI' cI oo := by
  intro h0
  obtain ⟨b, off, e, hc⟩ := h (by omega)
  refine ⟨b, off, e, fun i hi => ?_⟩
  rw [hI i hi]
  exact hc i (by omega)
theorem psum_eachS {nI : Nat → Nat} {n i : Nat} (h : i < n) : nI i ≤ psum nI n := by
  have := psum_le nI (show i + 1 ≤ n by omega)
  simp only [psum] at this
  omega

section
variable {w : World} {B : Nat} {s : St} {mB eB : Nat → Nat} {eR : Nat → Nat → Nat}
theorem partR_fullS {n i : Nat} {f : Nat → Value} {z : Value} (h : i < n) : partR n f z i = f i := by simp [partR, h]
theorem Out.keyS (h : Out w B s s.n s.n s.n s.n s.n mB eB eR) {k : Nat} (hk : k < s.n) : w.cell? ⟨B, k, none⟩ = some (.string (s.key k)) := by
  rw [h.r1.cell hk, partR_fullS hk]; rfl
theorem Out.madeS (h : Out w B s s.n s.n s.n s.n s.n mB eB eR) {k : Nat} (hk : k < s.n) : w.cell? ⟨B + 1, k, none⟩ = some (.slice (some ⟨mB k, 0, none⟩) (s.made k).length (s.made k).length) := by
  rw [h.r2.cell hk, partR_fullS hk]; rfl
theorem Out.idS (h : Out w B s s.n s.n s.n s.n s.n mB eB eR) {k : Nat} (hk : k < s.n) : w.cell? ⟨B + 3, k, none⟩ = some (.int .i64 (k : Int)) := by
  rw [h.r4.cell hk, partR_fullS hk]; rfl
theorem Out.earS (h : Out w B s s.n s.n s.n s.n s.n mB eB eR) {k : Nat} (hk : k < s.n) : ∃ ax cx, w.cell? ⟨B + 2, k, none⟩ = some (.slice ax (s.early k).length cx) ∧ (0 < (s.early k).length → ax = some ⟨eB k, 0, none⟩ ∧ ∀ r, r < (s.early k).length → w.cell? ⟨eB k, r, none⟩ = some (.slice (some ⟨eR k r, 0, none⟩) ((s.early k).getD r []).length ((s.early k).getD r []).length)) := by
  rw [h.r3.cell hk, partR_fullS hk]
  unfold earC
  by_cases e : s.early k = []
  · rw [if_pos e, e]
    exact ⟨none, 0, rfl, fun h => absurd h (Nat.not_lt_zero _)⟩
  · rw [if_neg e]
    refine ⟨_, _, rfl, fun _ => ⟨rfl, fun r hr => ?_⟩⟩
    rw [(h.eR k hk e).2.1.cell hr]; rfl
theorem row_intsS {w : World} {b : Nat} {L : List Nat} (h : w.rowIs b 3 L.length (lineC L)) : IntsAt w (some ⟨b, 0, none⟩) L.length (fun i => ((L.getD i 0 : Nat) : Int)) :=
  fun _ => ⟨b, 0, rfl, fun i hi => by rw [Nat.zero_add, h.cell hi]; rfl⟩
theorem Out.madeI (h : Out w B s s.n s.n s.n s.n s.n mB eB eR) {k : Nat} (hk : k < s.n) : IntsAt w (some ⟨mB k, 0, none⟩) (s.made k).length (fun i => (((s.made k).getD i 0 : Nat) : Int)) := row_intsS (h.mR k hk).2
theorem Out.earI (h : Out w B s s.n s.n s.n s.n s.n mB eB eR) {k r : Nat} (hk : k < s.n) (hr : r < (s.early k).length) : IntsAt w (some ⟨eR k r, 0, none⟩) ((s.early k).getD r []).length (fun i => ((((s.early k).getD r []).getD i 0 : Nat) : Int)) :=
  row_intsS ((h.eR k hk (fun e => by rw [e] at hr; exact absurd hr (Nat.not_lt_zero _))).2.2 r hr).2
end

/-- A stretch of a slice of ints. -/
theorem run_cut (w : World) (b off n c l h : Nat) (h1 : l < h) (h2 : h ≤ c) : (Instr.slice 34 (.slice (some ⟨b, off, none⟩) n c) (some (.int .i64 (l : Int))) (some (.int .i64 (h : Int))) none).run Try.prog w = .ok (.slice (some ⟨b, off + l, none⟩) (h - l) (c - l)) w := by
  have hu : Try.prog.underlying 34 = some (.slice (Try.prog.elem 34)) := by kernel_rfl
  have hz : (sizeOf (Try.prog.elem 34)).run Try.prog w = .ok 1 w := by kernel_rfl
  rw [run_slice_lh (P := Try.prog) (w := w) 34 (some ⟨b, off, none⟩) n c hu .i64 .i64 l h (by omega) (by omega) (by omega), hz]
  simp only [Result.andThen, sliced, Int.toNat_natCast]
  rw [if_neg (by omega)]
  simp [Addr.add]
theorem run_cutL (w : World) (b off n c l : Nat) (h1 : l < n) (h2 : n ≤ c) : (Instr.slice 34 (.slice (some ⟨b, off, none⟩) n c) (some (.int .i64 (l : Int))) none none).run Try.prog w = .ok (.slice (some ⟨b, off + l, none⟩) (n - l) (c - l)) w := by
  have hu : Try.prog.underlying 34 = some (.slice (Try.prog.elem 34)) := by kernel_rfl
  have hz : (sizeOf (Try.prog.elem 34)).run Try.prog w = .ok 1 w := by kernel_rfl
  rw [run_slice_l (P := Try.prog) (w := w) 34 (some ⟨b, off, none⟩) n c hu .i64 l (by omega) (by omega), hz]
  simp only [Result.andThen, sliced, Int.toNat_natCast]
  rw [if_neg (by omega)]
  simp [Addr.add]

/-- The two tables of the groups. -/
structure GW (w wr : World) (N : Nat) (G : Nat → Int) (Hh : Nat → Nat) : Prop where
  below : Below w.heap.size w wr
  rl : wr.rowIs w.heap.size 3 N (fun i => .int .i64 (G i))
  rh : wr.rowIs (w.heap.size + 1) 3 N (natV Hh)
theorem GW.setL {w wr : World} {N : Nat} {G : Nat → Int} {Hh : Nat → Nat} (h : GW w wr N G Hh) (k : Nat) (v : Int) : GW w (wr.setCell ⟨w.heap.size, k, none⟩ (.int .i64 v)) N (updI G k v) Hh :=
  ⟨h.below.setCell (Nat.le_refl _) _, (h.rl.set k (.int .i64 v)).congr (fun i _ => by unfold updI; by_cases e : i = k <;> simp [e]), h.rh.setOther (by show w.heap.size + 1 ≠ w.heap.size; omega) _⟩
theorem GW.setH {w wr : World} {N : Nat} {G : Nat → Int} {Hh : Nat → Nat} (h : GW w wr N G Hh) (k v : Nat) : GW w (wr.setCell ⟨w.heap.size + 1, k, none⟩ (.int .i64 (v : Int))) N G (upd Hh k v) :=
  ⟨h.below.setCell (by show w.heap.size ≤ w.heap.size + 1; omega) _, h.rl.setOther (by show w.heap.size ≠ w.heap.size + 1; omega) _, (h.rh.set k (.int .i64 (v : Int))).congr (fun i _ => by unfold natV upd; by_cases e : i = k <;> simp [e])⟩
theorem GW.drewN {w wr : World} {N : Nat} {G : Nat → Int} {Hh : Nat → Nat} (h : GW w wr N G Hh) (q : Nat) : GW w (wr.drewN q) N G Hh :=
  ⟨below_drewN h.below _, h.rl.of_block rfl, h.rh.of_block rfl⟩
theorem GW.congr {w wr : World} {N : Nat} {G G' : Nat → Int} {Hh : Nat → Nat} (h : GW w wr N G Hh) (e : ∀ i, i < N → G i = G' i) : GW w wr N G' Hh :=
  ⟨h.below, h.rl.congr (fun i hi => by rw [e i hi]), h.rh⟩

/-- The inner walk along the occurrences of a key. -/
structure RI (rs : List (List Nat)) (last segs t : Nat) : Prop where
  hs : segs < rs.length
  hl : last = offR rs segs
  h1 : last < t
  h2 : t ≤ last + (rs.getD segs []).length
theorem RI.inside {I : Inp} {rs : List (List Nat)} {last segs t : Nat} (h : RI rs last segs t) (hR : RunsOk I rs) (c : t < last + (rs.getD segs []).length) : I.O (rs.flatten.getD t 0) = 1 ∧ RI rs last segs (t + 1) := by
  obtain ⟨hs, hl, h1, h2⟩ := h
  have e := offR_get (rs := rs) (r := segs) (t := t - last) hs (by omega)
  rw [← hl, show last + (t - last) = t by omega] at e
  rw [e]
  exact ⟨hR.rest segs (t - last) hs (by omega) (by omega), hs, hl, by omega, by omega⟩
theorem RI.ne {rs : List (List Nat)} (hne : ∀ L ∈ rs, L ≠ []) {r : Nat} (h : r < rs.length) : 0 < (rs.getD r []).length := by
  have e : rs.getD r [] = rs[r] := by rw [List.getD_eq_getElem?_getD, List.getElem?_eq_getElem h]; rfl
  rw [e]
  exact List.length_pos_iff.2 (hne _ (List.getElem_mem h))
theorem RI.fresh {I : Inp} {rs : List (List Nat)} {last segs t : Nat} (h : RI rs last segs t) (hR : RunsOk I rs) (hne : ∀ L ∈ rs, L ≠ []) (c : t = last + (rs.getD segs []).length) (ht : t < rs.flatten.length) : segs + 1 < rs.length ∧ I.O (rs.flatten.getD t 0) ≠ 1 ∧ RI rs t (segs + 1) (t + 1) := by
  obtain ⟨hs, hl, h1, h2⟩ := h
  have ho := offR_succ hs
  have hlt : segs + 1 < rs.length := by
    rcases Nat.lt_or_ge (segs + 1) rs.length with q | q
    · exact q
    · have : segs + 1 = rs.length := by omega
      rw [this, offR_all] at ho
      omega
  have hpos := RI.ne hne hlt
  have e := offR_get (rs := rs) (r := segs + 1) (t := 0) hlt hpos
  rw [Nat.add_zero, ho, ← hl, ← c] at e
  rw [e]
  exact ⟨hlt, hR.head (segs + 1) (by omega) hlt, hlt, by rw [ho, ← hl, c], by omega, by omega⟩
theorem RI.over {rs : List (List Nat)} {last segs t : Nat} (h : RI rs last segs t) (hne : ∀ L ∈ rs, L ≠ []) (ht : t = rs.flatten.length) : segs + 1 = rs.length ∧ t = last + (rs.getD segs []).length := by
  obtain ⟨hs, hl, h1, h2⟩ := h
  have ho := offR_succ hs
  rcases Nat.lt_or_ge (segs + 1) rs.length with q | q
  · have ho2 := offR_succ q
    have hpos := RI.ne hne q
    have hle := offR_le (rs := rs) (r := segs + 1 + 1) (by omega)
    omega
  · have e : segs + 1 = rs.length := by omega
    rw [e, offR_all] at ho
    exact ⟨e, by omega⟩
theorem RI.get {rs : List (List Nat)} {last segs t : Nat} (h : RI rs last segs t) {q : Nat} (hq : q < (rs.getD segs []).length) : rs.flatten.getD (last + q) 0 = (rs.getD segs []).getD q 0 := by
  have e := offR_get (rs := rs) (r := segs) (t := q) h.hs hq
  rw [← h.hl] at e
  exact e
theorem RI.start {rs : List (List Nat)} (hne : ∀ L ∈ rs, L ≠ []) (h0 : 0 < rs.length) : RI rs 0 0 1 := ⟨h0, rfl, by omega, by have := RI.ne hne h0; omega⟩
theorem rsOf_ne {I : Inp} {N : Nat} {s : St} (h : Law I N s) {k : Nat} (hk : k < s.n) : ∀ L ∈ rsOf s k, L ≠ [] := by
  intro L hL
  rw [rsOf, List.mem_append, List.mem_singleton] at hL
  rcases hL with hL | rfl
  · exact h.ene k hk L hL
  · exact h.mne k hk
theorem rsOf_flat {I : Inp} {N : Nat} {s : St} (h : Law I N s) {k : Nat} (hk : k < s.n) : (rsOf s k).flatten = occOf I N (s.key k) := by
  rw [rsOf, List.flatten_append, ← h.occ k hk]
  simp

/-- How the state with repeats, or without, stands to the one with. -/
structure Alike (rep : Bool) (s s1 : St) : Prop where
  n : s.n = s1.n
  key : s.key = s1.key
  made : s.made = s1.made
  yes : rep = true → s.early = s1.early ∧ s.cnt = s1.cnt
  no : rep = false → (∀ j, s.early j = []) ∧ s.cnt = 0
theorem alike (I : Inp) (rep : Bool) (N : Nat) : Alike rep (stAt I rep N) (stAt I true N) := by
  cases rep with
  | true => exact ⟨rfl, rfl, rfl, fun _ => ⟨rfl, rfl⟩, fun h => by cases h⟩
  | false =>
    obtain ⟨h1, h2, _, h4⟩ := stAt_same I N
    exact ⟨h1, h2, h4, (fun h => by cases h), fun _ => stAt_still I N⟩

set_option maxRecDepth 100000 in
set_option maxHeartbeats 8000000 in
/-- FnApplyBlockSegments. -/
theorem sg_walk (hA : ApplySays) (rep : Bool) {a1 a2 : Option Addr} {n1 n2 : Nat} {aI aP : Nat → Option Addr} {nI nP cI cP : Nat → Nat} {kk : Nat → Nat → ByteArray} {oo : Nat → Nat → Int} {w : World} (c1 c2 : Nat) (H : Args w a1 a2 n1 n2 aI aP nI nP cI cP kk oo) :
    Calls Try.prog 3 #[.slice a1 n1 c1, .slice a2 n2 c2, .bool rep] w fun e w' => e = .returned (.bool true) ∧ Below w.heap.size w w' := by
  have HA : Hid ApplySays := hA
  have HR : Hid (Args w a1 a2 n1 n2 aI aP nI nP cI cP kk oo) := H
  have HB := (id (bytes_sg c1 c2 rep H) : Hid (Calls _ _ _ _ _))
  have HF := (id (fit_any c1 c2 H) : Hid (Calls _ _ _ _ _))
  clear H hA
  go_enter Try.func3, Try.ntmps3
  go_wp2_with fail
  refine HB.out.mono ?_
  rintro e w' ⟨⟨t, rfl⟩, rfl⟩
  clear HB
  cases t with
  | false => go_wp2_with fail; go_ret; exact ⟨rfl, Below.refl _ _⟩
  | true =>
  go_wp2_with fail
  refine HF.out.mono ?_
  rintro e w' ⟨⟨t, rfl, hfit⟩, rfl⟩
  clear HF
  cases t with
  | false => go_wp2_with fail; go_ret; exact ⟨rfl, Below.refl _ _⟩
  | true =>
  obtain ⟨hn1, hn2, hsum⟩ := hfit rfl
  have HM := (id (match_any c1 c2 hn1 HR.out) : Hid (Calls _ _ _ _ _))
  clear hfit
  go_wp2_with fail
  refine HM.out.mono ?_
  rintro e w' ⟨⟨t, rfl, hmat⟩, q, rfl⟩
  clear HM
  cases t with
  | false => go_wp2_with fail; go_ret; exact ⟨rfl, below_drewN (Below.refl _ _) _⟩
  | true =>
  obtain ⟨rfl, hmI⟩ := hmat rfl
  have hN : psum nI n1 ≤ 65536 := by omega
  have hle : ∀ i, i < n1 → nI i ≤ 1048576 := fun i hi => by have := psum_eachS (nI := nI) hi; omega
  have HC1 := (id (copyStr2_any a1 n1 c1 aI nI cI kk (w.drewN q) (by omega) hle HR.out.keys) : Hid (Calls _ _ _ _ _))
  have HO1 : Hid (OpsAt (w.drewN q) a2 n1 aP nI cP oo) := HR.out.ops.congrS rfl hmI
  have HLE : Hid (∀ i, i < n1 → nI i ≤ 1048576) := hle
  have HN : Hid (psum nI n1 ≤ 65536) := hN
  clear hmat hmI hle hN hsum HR
  go_wp2_with fail
  refine HC1.out.mono ?_
  rintro e w2 ⟨b1, d1, bI, dI, rfl, hk2, hb2⟩
  have hb02 : Below w.heap.size w w2 := ⟨hb2.os, hb2.tape, hb2.output, hb2.size, hb2.block⟩
  have HC2 := (id (copyU82_any a2 n1 c2 aP nI cP oo w2 (by omega) HLE.out (HO1.out.below hb2)) : Hid (Calls _ _ _ _ _))
  have HK2 : Hid (KeysAt w2 b1 n1 bI nI dI kk) := hk2
  clear HC1 HO1 hk2 hb2
  go_wp2_with fail
  refine HC2.out.mono ?_
  rintro e w3 ⟨b2, d2, bP, dP, rfl, ho3, hb3⟩
  have HK3 : Hid (KeysAt w3 b1 n1 bI nI dI kk) := HK2.out.below hb3
  have HO3 : Hid (OpsAt w3 b2 n1 bP nI dP oo) := ho3
  have HFL := (id (flatten_any d1 d2 hn1 HN.out HK3.out HO3.out) : Hid (Calls _ _ _ _ _))
  have hb03 : Below w.heap.size w w3 := hb02.trans (hb3.mono hb02.size)
  obtain ⟨I, hI⟩ : ∃ I, Hid (I = inpOf n1 nI kk oo) := ⟨_, (rfl : inpOf n1 nI kk oo = _)⟩
  obtain ⟨N, hN⟩ : ∃ N, Hid (N = psum nI n1) := ⟨_, (rfl : psum nI n1 = _)⟩
  have hNle : N ≤ 65536 := by rw [hN.out]; exact HN.out
  rw [← hI.out, ← hN.out] at HFL
  clear HC2 HK2 ho3 hb3 HLE hb02
  go_wp2_with fail
  refine HFL.out.mono ?_
  rintro e w4 ⟨aF, cF, aG, cG, rfl, hv4, hg4, hb4⟩
  have HK4 : Hid (KeysAt w4 b1 n1 bI nI dI kk) := HK3.out.below hb4
  have HO4 : Hid (OpsAt w4 b2 n1 bP nI dP oo) := HO3.out.below hb4
  have HV4 : Hid (ValsAt w4 aF N (keyV I)) := hv4
  have HG4 : Hid (ValsAt w4 aG N (appV I)) := hg4
  have hb04 : Below w.heap.size w w4 := hb03.trans (hb4.mono hb03.size)
  have HT := (id (blocks_any HA.out rep b1 b2 n1 d1 d2 bI bP nI dI dP kk oo w4 hn1 (by have := HN.out; omega) HK4.out HO4.out) : Hid (Calls _ _ _ _ _))
  rw [← hI.out, ← hN.out] at HT
  have HAL : Hid (Alike rep (stAt I rep N) (stAt I true N)) := alike I rep N
  have hsn : (stAt I rep N).n ≤ 65536 := by
    have := (stAt_fits I rep N).1
    omega
  obtain ⟨s, hs⟩ : ∃ s, Hid (s = stAt I rep N) := ⟨_, (rfl : stAt I rep N = _)⟩
  rw [← hs.out] at HT HAL hsn
  clear HFL HK3 HO3 hv4 hg4 hb4 hb03 HA hs hI hN HN
  go_wp2_with fail
  refine HT.out.mono ?_
  rintro e w5 ⟨B1, mB1, eB1, eR1, en, rfl, hB1, hO1, hb5, hen⟩
  have HV5 : Hid (ValsAt w5 aF N (keyV I)) := HV4.out.below hb5
  have HG5 : Hid (ValsAt w5 aG N (appV I)) := HG4.out.below hb5
  have HX5 : Hid (Out w5 B1 s s.n s.n s.n s.n s.n mB1 eB1 eR1) := hO1
  have HEN : Hid (en = true ↔ s.cnt = 0) := hen
  have hb05 : Below w.heap.size w w5 := hb04.trans (hb5.mono hb04.size)
  have HSO := (id (sort_any I aF N cF w5 hNle HV5.out) : Hid (Calls _ _ _ _ _))
  obtain ⟨nk, hnk⟩ : ∃ nk, Hid (nk = s.n) := ⟨_, (rfl : s.n = _)⟩
  obtain ⟨cnt, hcnt⟩ : ∃ cnt, Hid (cnt = s.cnt) := ⟨_, (rfl : s.cnt = _)⟩
  rw [← hnk.out, ← hcnt.out]
  rw [← hnk.out] at hsn
  clear HT HK4 HO4 HV4 HG4 hb04 hb5 hO1 hB1 hen
  go_wp2_with fail
  refine HSO.out.mono ?_
  rintro e w6 ⟨bo, A, rfl, hbo, hrow, hGd, hb6⟩
  have HV6 : Hid (ValsAt w6 aF N (keyV I)) := HV5.out.below hb6
  have HG6 : Hid (ValsAt w6 aG N (appV I)) := HG5.out.below hb6
  have HX6 : Hid (Out w6 B1 s s.n s.n s.n s.n s.n mB1 eB1 eR1) := HX5.out.kept hb6.block
  have HRO : Hid (w6.rowIs bo 3 N (natV A)) := hrow
  have HGD : Hid (Gd I.K A 0 N) := hGd
  have hb06 : Below w.heap.size w w6 := hb05.trans (hb6.mono hb05.size)
  have hmk := run_make_row' (P := Try.prog) 34 3 (.int .i64 0) 8 Try.underlying34 Try.info3R rfl .i64 .i64 N (by omega) (by omega)
  have HW0 : Hid (GW w6 ((w6.alloc (.cells (madeCells #[.int .i64 0] N) 3)).alloc (.cells (madeCells #[.int .i64 0] N) 3)) N (fun _ => 0) (fun _ => 0)) := by
    have h1 := World.rowIs_made w6 (.int .i64 0) N 3
    have h2 := World.rowIs_made (w6.alloc (.cells (madeCells #[.int .i64 0] N) 3)) (.int .i64 0) N 3
    rw [World.size_alloc] at h2
    exact ⟨((Below.refl _ _).alloc (Nat.le_refl _) _).alloc (by simp) _, h1.alloc _, h2⟩
  clear HSO HV5 HG5 HX5 hb6 hb05 hrow hGd hbo
  go_wp2_with fail
  go_loopw [20] (fun i wr => ∃ (k : Nat) (G : Nat → Int), k ≤ N ∧ i = .int .i64 k ∧ Hid (GW w6 wr N G (fun _ => 0) ∧ ∀ j, j < k → G j = -1)) (fun i _ => N - (intOf i).toNat)
  case atStart => exact ⟨0, _, Nat.zero_le _, rfl, ⟨HW0.out, fun j hj => absurd hj (Nat.not_lt_zero _)⟩⟩
  case round =>
    rename World => w7
    clear HW0 hmk
    obtain ⟨k, G, hk, rfl, hg⟩ := hrel
    by_cases hlt : k < N
    · have hd := hg.out.1.rl.cell hlt
      have hf := hg.out.1.rl.frozen k
      have HN2 : Hid (GW w6 (w7.setCell ⟨w6.heap.size, k, none⟩ (.int .i64 (-1))) N (updI G k (-1)) (fun _ => 0) ∧ ∀ j, j < k + 1 → updI G k (-1) j = -1) := by
        refine ⟨hg.out.1.setL k (-1), fun j hj => ?_⟩
        unfold updI
        by_cases e : j = k
        · rw [if_pos e]
        · rw [if_neg e]; exact hg.out.2 j (by omega)
      clear hg
      go_wp2_with fail
      go_roundw
      case rel => exact ⟨k + 1, _, by omega, by go_num, HN2⟩
      case measure => simp [intOf]; omega
    · obtain rfl : N = k := by omega
      have HG0 : Hid (GW w6 w7 N (fun _ => -1) (fun _ => 0)) := hg.out.1.congr (fun i hi => hg.out.2 i hi)
      clear hg
      go_wp2_with fail
      go_loopw [21] (fun vl wr => ∃ (lo : Nat) (G : Nat → Int) (Hh : Nat → Nat), lo ≤ N ∧ vl = .int .i64 lo ∧ Hid (GW w6 wr N G Hh) ∧ Hid (GInv I N A G Hh lo)) (fun vl _ => N - (intOf vl).toNat)
      case atStart => exact ⟨0, _, _, Nat.zero_le _, rfl, HG0, GInv.start I N A⟩
      case round =>
        rename World => w8
        clear HG0
        obtain ⟨lo, G, Hh, hlo, rfl, hgw, hgi⟩ := hrel
        by_cases hll : lo < N
        · have HS0 : Hid (∀ p, lo ≤ p → p < lo + 1 → I.K (A p) = I.K (A lo)) := fun p h1 h2 => by rw [show p = lo by omega]
          go_wp2_with fail
          go_loopw [22] (fun vh wr => ∃ hi : Nat, hi ≤ N ∧ lo < hi ∧ vh = .int .i64 hi ∧ Hid (GW w6 wr N G Hh) ∧ Hid (∀ p, lo ≤ p → p < hi → I.K (A p) = I.K (A lo))) (fun vh _ => N - (intOf vh).toNat)
          case atStart => exact ⟨lo + 1, by omega, by omega, by go_num, hgw, HS0⟩
          case round =>
            rename World => w9
            clear hgw HS0
            obtain ⟨hi, hhN, hhl, rfl, hgw, HS⟩ := hrel
            have xlo := gd_val HGD.out hll
            have clo : w9.cell? ⟨bo, lo, none⟩ = some (.int .i64 ((A lo : Nat) : Int)) := (hgw.out.below.cell (by exact HRO.out.lt)).trans (HRO.out.cell hll)
            by_cases hhi : hi < N
            · have xhi := gd_val HGD.out hhi
              have chi : w9.cell? ⟨bo, hi, none⟩ = some (.int .i64 ((A hi : Nat) : Int)) := (hgw.out.below.cell (by exact HRO.out.lt)).trans (HRO.out.cell hhi)
              obtain ⟨kb, koff, rfl, hkc⟩ := HV6.out (by omega)
              have klo := hkc (A lo) xlo
              have khi := hkc (A hi) xhi
              unfold keyV at klo khi
              have klo' := (hgw.out.below.cell (by exact World.block_lt_of_cell? w6 _ klo)).trans klo
              have khi' := (hgw.out.below.cell (by exact World.block_lt_of_cell? w6 _ khi)).trans khi
              clear klo khi hkc
              by_cases he : I.K (A hi) = I.K (A lo)
              · have HS2 : Hid (∀ p, lo ≤ p → p < hi + 1 → I.K (A p) = I.K (A lo)) := fun p h1 h2 => by
                  by_cases e : p = hi
                  · rw [e]; exact he
                  · exact HS.out p h1 (by omega)
                have HWn : ∀ nq, Hid (GW w6 (w9.drewN nq) N G Hh) := fun nq => hgw.out.drewN nq
                rw [he] at khi'
                obtain ⟨key, hkey⟩ : ∃ key, I.K (A lo) = key := ⟨_, rfl⟩
                obtain ⟨x, hx⟩ : ∃ x, A lo = x := ⟨_, rfl⟩
                obtain ⟨y, hy⟩ : ∃ y, A hi = y := ⟨_, rfl⟩
                rw [hkey] at klo' khi'
                rw [hx] at clo klo' xlo
                rw [hy] at chi khi' xhi
                have hx0 : (0 : Int) ≤ (x : Int) := by omega
                have hx1 : (x : Int) < (N : Int) := by omega
                have hy0 : (0 : Int) ≤ (y : Int) := by omega
                have hy1 : (y : Int) < (N : Int) := by omega
                clear HS he hkey hx hy hgw hgi
                go_wp2_with fail
                go_quiet (fail)
                go_wp2_with fail
                go_roundw
                case rel => exact ⟨hi + 1, by omega, by omega, by go_num, HWn _, HS2⟩
                case measure => simp [intOf]; omega
              · have hne : ((I.K (A hi)).toList == (I.K (A lo)).toList) = false := by
                  rw [beq_eq_false_iff_ne]
                  exact fun e => he (toList_inj e)
                obtain ⟨k1, hk1⟩ : ∃ key, I.K (A lo) = key := ⟨_, rfl⟩
                obtain ⟨k2, hk2⟩ : ∃ key, I.K (A hi) = key := ⟨_, rfl⟩
                obtain ⟨y, hy⟩ : ∃ y, A hi = y := ⟨_, rfl⟩
                have HE : Hid (I.K (A hi) ≠ I.K (A lo)) := he
                clear he
                rw [hk1] at klo' hne
                rw [hk2] at khi' hne
                rw [hy] at chi khi' xhi
                have hy0 : (0 : Int) ≤ (y : Int) := by omega
                have hy1 : (y : Int) < (N : Int) := by omega
                clear hk1 hk2 hy
                have HQ : Hid (GInv I N A (updI G (A lo) (lo : Int)) (upd Hh (A lo) hi) hi) := hgi.out.step HGD.out hhN HS.out (.inr HE.out) hhl
                have HWn : ∀ nq, Hid (GW w6 (((w9.setCell ⟨w6.heap.size, A lo, none⟩ (.int .i64 (lo : Int))).setCell ⟨w6.heap.size + 1, A lo, none⟩ (.int .i64 (hi : Int))).drewN nq) N (updI G (A lo) (lo : Int)) (upd Hh (A lo) hi)) := fun nq => ((hgw.out.setL _ _).setH _ _).drewN nq
                have gl := hgw.out.rl.cell (i := A lo) xlo
                have gh := hgw.out.rh.cell (i := A lo) xlo
                have fl := hgw.out.rl.frozen (A lo)
                have fh := hgw.out.rh.frozen (A lo)
                unfold natV at gh
                obtain ⟨x, hx⟩ : ∃ x, A lo = x := ⟨_, rfl⟩
                rw [hx] at gl gh fl fh xlo clo HWn HQ klo'
                have hx0 : (0 : Int) ≤ (x : Int) := by omega
                have hx1 : (x : Int) < (N : Int) := by omega
                have hbn : bo ≠ w6.heap.size := by have := HRO.out.lt; omega
                have hbn1 : bo ≠ w6.heap.size + 1 := by have := HRO.out.lt; omega
                have hcs : (w9.setCell ⟨w6.heap.size, x, none⟩ (.int .i64 (lo : Int))).cell? ⟨bo, lo, none⟩ = some (.int .i64 (x : Int)) := cell_so clo hbn
                have hws : w6.heap.size + 1 ≠ w6.heap.size := by omega
                have hgs : (w9.setCell ⟨w6.heap.size, x, none⟩ (.int .i64 (lo : Int))).cell? ⟨w6.heap.size + 1, x, none⟩ = some (.int .i64 (Hh x : Int)) := cell_so gh hws
                clear hgw hgi HS hx
                go_wp2_with fail
                go_quiet (fail)
                go_wp2_with fail
                go_roundw
                case rel => exact ⟨hi, _, _, by omega, rfl, HWn _, HQ⟩
                case measure => simp [intOf]; omega
            · obtain rfl : N = hi := by omega
              have HQ : Hid (GInv I N A (updI G (A lo) (lo : Int)) (upd Hh (A lo) N) N) := hgi.out.step HGD.out hhN HS.out (.inl rfl) hhl
              have HWn : ∀ nq, Hid (GW w6 (((w9.setCell ⟨w6.heap.size, A lo, none⟩ (.int .i64 (lo : Int))).setCell ⟨w6.heap.size + 1, A lo, none⟩ (.int .i64 (N : Int))).drewN nq) N (updI G (A lo) (lo : Int)) (upd Hh (A lo) N)) := fun nq => ((hgw.out.setL _ _).setH _ _).drewN nq
              have gl := hgw.out.rl.cell (i := A lo) xlo
              have gh := hgw.out.rh.cell (i := A lo) xlo
              have fl := hgw.out.rl.frozen (A lo)
              have fh := hgw.out.rh.frozen (A lo)
              unfold natV at gh
              obtain ⟨x, hx⟩ : ∃ x, A lo = x := ⟨_, rfl⟩
              rw [hx] at gl gh fl fh xlo clo HWn HQ 
              have hx0 : (0 : Int) ≤ (x : Int) := by omega
              have hx1 : (x : Int) < (N : Int) := by omega
              have hbn : bo ≠ w6.heap.size := by have := HRO.out.lt; omega
              have hbn1 : bo ≠ w6.heap.size + 1 := by have := HRO.out.lt; omega
              have hcs : (w9.setCell ⟨w6.heap.size, x, none⟩ (.int .i64 (lo : Int))).cell? ⟨bo, lo, none⟩ = some (.int .i64 (x : Int)) := cell_so clo hbn
              have hws : w6.heap.size + 1 ≠ w6.heap.size := by omega
              have hgs : (w9.setCell ⟨w6.heap.size, x, none⟩ (.int .i64 (lo : Int))).cell? ⟨w6.heap.size + 1, x, none⟩ = some (.int .i64 (Hh x : Int)) := cell_so gh hws
              clear hgw hgi HS hx
              go_wp2_with fail
              go_quiet (fail)
              go_wp2_with fail
              go_roundw
              case rel => exact ⟨N, _, _, by omega, rfl, HWn _, HQ⟩
              case measure => simp [intOf]; omega
        · obtain rfl : N = lo := by omega
          have HV8 : Hid (ValsAt w8 aF N (keyV I)) := HV6.out.below hgw.out.below
          have HG8 : Hid (ValsAt w8 aG N (appV I)) := HG6.out.below hgw.out.below
          have HX8 : Hid (Out w8 B1 s s.n s.n s.n s.n s.n mB1 eB1 eR1) := HX6.out.kept hgw.out.below.block
          have HR8 : Hid (w8.rowIs bo 3 N (natV A)) := HRO.out.of_block (hgw.out.below.block _ HRO.out.lt)
          have HL8 : Hid (w8.rowIs w6.heap.size 3 N (fun i => .int .i64 (G i))) := hgw.out.rl
          have HH8 : Hid (w8.rowIs (w6.heap.size + 1) 3 N (natV Hh)) := hgw.out.rh
          have hb08 : Below w.heap.size w w8 := hb06.trans (hgw.out.below.mono hb06.size)
          have HL1 : Hid (Law I N (stAt I true N)) := stAt_law I N
          have HL2 : Hid (Law2 I (stAt I true N)) := stAt_law2 I N
          obtain ⟨s1, hs1⟩ : ∃ s1, Hid (s1 = stAt I true N) := ⟨_, (rfl : stAt I true N = _)⟩
          rw [← hs1.out] at HAL HL1 HL2
          clear HV6 HG6 HX6 HRO hgw hb06
          go_wp2_with fail
          go_loopw [23, 24, 25] (fun vk ve vf wr => ∃ k we f m : Nat, f ≤ N ∧ k ≤ nk ∧ we ≤ k ∧ vk = .int .i64 k ∧ ve = .int .i64 we ∧ vf = .int .i64 f ∧ w8.drewN m = wr ∧ Hid (k = (stAt I true f).n) ∧ Hid (we = if rep then psum (fun j => hasE (s1.early j)) k else 0)) (fun _ _ vf _ => N - (intOf vf).toNat)
          case atStart => exact ⟨0, 0, 0, 0, Nat.zero_le _, Nat.zero_le _, Nat.le_refl _, rfl, rfl, rfl, rfl, (rfl : 0 = (stAt I true 0).n), (by cases rep <;> rfl : 0 = if rep then psum (fun j => hasE (s1.early j)) 0 else 0)⟩
          case round =>
            obtain ⟨k, we, f, m, hf, hk, hwe, rfl, rfl, rfl, rfl, HKf, HWE⟩ := hrel
            by_cases hlt : f < N
            · by_cases hL : Leader I f
              · obtain ⟨l, hl1, hl2, hl3, hl4⟩ := hgi.out.leader HGD.out hlt hL
                obtain ⟨o1, o2, o3⟩ := own_leader hlt hL
                rw [← HKf.out] at o1 o2 o3
                rw [← hs1.out] at o2 o3
                have hks : k < s.n := by rw [HAL.out.n]; exact o2
                have hkn : k < nk := by rw [hnk.out]; exact hks
                have HK1 : Hid (k + 1 = (stAt I true (f + 1)).n) := o1.symm
                obtain ⟨h, hh⟩ : ∃ h, h = Hh f := ⟨_, rfl⟩
                rw [← hh] at hl2 hl3 hl4
                have g1 : w8.cell? ⟨w6.heap.size, f, none⟩ = some (.int .i64 (l : Int)) := by rw [HL8.out.cell hlt, hl1]
                have g2 : w8.cell? ⟨w6.heap.size + 1, f, none⟩ = some (.int .i64 (h : Int)) := by rw [HH8.out.cell hlt, natV, hh]
                have ck : w8.cell? ⟨B1, k, none⟩ = some (.string (I.K f)) := by rw [HX8.out.keyS hks, HAL.out.key, o3]
                have ci := HX8.out.idS hks
                obtain ⟨kb, koff, rfl, hkc⟩ := HV8.out (by omega)
                have cf : w8.cell? ⟨kb, koff + f, none⟩ = some (.string (I.K f)) := hkc f hlt
                obtain ⟨rs, hrs⟩ : ∃ rs, Hid (rs = rsOf s1 k) := ⟨_, (rfl : rsOf s1 k = _)⟩
                have hfl : rs.flatten = seg A l (h - l) := by rw [hrs.out, rsOf_flat HL1.out o2, o3, hl4]
                have hln : rs.flatten.length = h - l := by rw [hfl, seg_len]
                have hne : ∀ L ∈ rs, L ≠ [] := by rw [hrs.out]; exact rsOf_ne HL1.out o2
                have HRK : Hid (RunsOk I rs) := by rw [hrs.out]; exact HL2.out.runs k o2
                have HRS : Hid (RI rs 0 0 1) := RI.start hne (by rw [hrs.out, rsOf]; simp)
                have HNE : Hid (∀ L ∈ rs, L ≠ []) := hne
                have hcut := fun w => run_cut w bo 0 N N l h hl2 hl3
                have HCL : Hid (∀ t, t < h - l → w8.cell? ⟨bo, l + t, none⟩ = some (.int .i64 ((rs.flatten.getD t 0 : Nat) : Int)) ∧ rs.flatten.getD t 0 < N) := fun t ht => by
                  rw [hfl, seg_get ht]
                  exact ⟨HR8.out.cell (by omega), gd_val HGD.out (by omega)⟩
                obtain ⟨ol, hol⟩ : ∃ ol, ol = h - l := ⟨_, rfl⟩
                obtain ⟨oc, hoc⟩ : ∃ oc, oc = N - l := ⟨_, rfl⟩
                simp only [Nat.zero_add, ← hol, ← hoc] at hcut
                rw [← hol] at HCL hln
                have hocl : ol ≤ oc := by omega
                have hol1 : 1 ≤ ol := by omega
                have hol2 : ol ≤ 65536 := by omega
                have HLN : Hid (rs.flatten.length = ol) := hln
                have HO2 : Hid (k < s1.n) := o2
                obtain ⟨key, hkey⟩ : ∃ key, I.K f = key := ⟨_, rfl⟩
                rw [hkey] at ck cf
                have hl0 : ¬ (l : Int) < 0 := by omega
                clear hl1 hl4 o1 o2 o3 hh hkc hfl hne hln hol hoc hkey hgi
                go_wp2_with fail
                go_quiet (fail)
                go_wp2_with fail
                go_quiet (fail)
                go_wp2_with fail
                rw [World.drewN_drewN, World.drewN_drewN]
                go_loopw [27, 28, 29] (fun vl vs vt wr => ∃ last segs t m' : Nat, t ≤ ol ∧ last < t ∧ segs < t ∧ vl = .int .i64 last ∧ vs = .int .i64 segs ∧ vt = .int .i64 t ∧ w8.drewN m' = wr ∧ Hid (RI rs last segs t)) (fun _ _ vt _ => ol - (intOf vt).toNat)
                case atStart => exact ⟨0, 0, 1, _, hol1, by omega, by omega, rfl, rfl, rfl, rfl, HRS⟩
                case round =>
                  clear HRS hcut
                  obtain ⟨last, segs, t, m', ht, hlt1, hst, rfl, rfl, rfl, rfl, HRI⟩ := hrel
                  by_cases htl : t < ol
                  · obtain ⟨cx, hxN⟩ := HCL.out t htl
                    obtain ⟨gb, goff, rfl, hgc⟩ := HG8.out (by omega)
                    by_cases c : t < last + (rs.getD segs []).length
                    · obtain ⟨hO, hR2⟩ := HRI.out.inside HRK.out c
                      have ca : w8.cell? ⟨gb, goff + rs.flatten.getD t 0, none⟩ = some (.bool true) := by rw [hgc _ hxN, appV, decide_eq_true hO]
                      obtain ⟨x, hx⟩ : ∃ x, rs.flatten.getD t 0 = x := ⟨_, rfl⟩
                      rw [hx] at cx hxN ca
                      have HR2 : Hid (RI rs last segs (t + 1)) := hR2
                      clear hgc hO hR2 hx c HRI
                      go_wp2_with fail
                      go_roundw
                      case rel => exact ⟨last, segs, t + 1, _, by omega, by omega, by omega, rfl, rfl, by go_num, rfl, HR2⟩
                      case measure => simp [intOf]; omega
                    · have c' : t = last + (rs.getD segs []).length := by have := HRI.out.h2; omega
                      obtain ⟨hs2, hO, hR2⟩ := HRI.out.fresh HRK.out HNE.out c' (by rw [HLN.out]; exact htl)
                      have ca : w8.cell? ⟨gb, goff + rs.flatten.getD t 0, none⟩ = some (.bool false) := by rw [hgc _ hxN, appV, decide_eq_false hO]
                      obtain ⟨x, hx⟩ : ∃ x, rs.flatten.getD t 0 = x := ⟨_, rfl⟩
                      rw [hx] at cx hxN ca
                      have HR2 : Hid (RI rs t (segs + 1) (t + 1)) := hR2
                      have HS2 : Hid (segs + 1 < rs.length) := hs2
                      have HC : Hid (t = last + (rs.getD segs []).length) := c'
                      clear hgc hO hR2 hx c c' hs2
                      cases rep with
                      | false =>
                        go_wp2_with fail
                        go_roundw
                        case rel => exact ⟨t, segs + 1, t + 1, _, by omega, by omega, by omega, rfl, by go_num, by go_num, rfl, HR2⟩
                        case measure => simp [intOf]; omega
                      | true =>
                        have hE : s.early = s1.early := (HAL.out.yes rfl).1
                        obtain ⟨ax, cx2, x1, hin⟩ := HX8.out.earS hks
                        rw [hE] at x1 hin
                        have hse : segs < (s1.early k).length := by
                          have := HS2.out
                          rw [hrs.out, rsOf, List.length_append] at this
                          simp at this
                          omega
                        obtain ⟨rfl, hinr⟩ := hin (by omega)
                        have xr := hinr segs hse
                        have hgd : rs.getD segs [] = (s1.early k).getD segs [] := by rw [hrs.out, rsOf, getD_left hse]
                        rw [← hgd] at xr
                        have hI1 : IntsAt w8 (some ⟨eR1 k segs, 0, none⟩) (rs.getD segs []).length (fun i => (((rs.getD segs []).getD i 0 : Nat) : Int)) := by
                          have := HX8.out.earI hks (r := segs) (by rw [hE]; exact hse)
                          rw [hE, ← hgd] at this
                          exact this
                        have hcl := HC.out
                        have hI2 : IntsAt w8 (some ⟨bo, l + last, none⟩) (rs.getD segs []).length (fun i => (((rs.getD segs []).getD i 0 : Nat) : Int)) := fun _ => ⟨bo, l + last, rfl, fun q hq => by rw [Nat.add_assoc, (HCL.out (last + q) (by omega)).1, HRI.out.get hq]⟩
                        have hcut2 := fun w => run_cut w bo l ol oc last t hlt1 (by omega)
                        have HCQ : Hid (∀ m, Calls Try.prog 18 #[.slice (some ⟨eR1 k segs, 0, none⟩) (rs.getD segs []).length (rs.getD segs []).length, .slice (some ⟨bo, l + last, none⟩) (rs.getD segs []).length (oc - last)] (w8.drewN m) fun e w' => e = .returned (.bool true) ∧ ∃ k', w' = (w8.drewN m).drewN k') := fun m =>
                          eqInts_true _ _ _ _ _ (fun i => (((rs.getD segs []).getD i 0 : Nat) : Int)) (w8.drewN m) (by omega) hI1 hI2
                        have HCQ2 : Hid (∀ n, Calls Try.prog 18 #[.slice (some ⟨eR1 k segs, 0, none⟩) (rs.getD segs []).length (rs.getD segs []).length, .slice (some ⟨bo, l + last, none⟩) (rs.getD segs []).length (oc - last)] (w8.drewN (m' + n)) fun e w' => e = .returned (.bool true) ∧ ∃ k', w' = w8.drewN (m' + k')) := fun n =>
                          (HCQ.out (m' + n)).mono (fun e w' ⟨he, q, hq⟩ => ⟨he, n + q, by rw [hq, World.drewN_drewN, Nat.add_assoc]⟩)
                        obtain ⟨ll, hll⟩ : ∃ ll, ll = (rs.getD segs []).length := ⟨_, rfl⟩
                        rw [← hll] at HCQ HCQ2 xr hcl
                        rw [show t - last = ll by omega] at hcut2
                        obtain ⟨od, hod⟩ : ∃ od, od = oc - last := ⟨_, rfl⟩
                        rw [← hod] at HCQ HCQ2
                        simp only [← hod] at hcut2
                        obtain ⟨el, hel⟩ : ∃ el, el = (s1.early k).length := ⟨_, rfl⟩
                        rw [← hel] at x1 hse
                        have hse0 : (0 : Int) ≤ (segs : Int) := by omega
                        have hse1 : (segs : Int) < (el : Int) := by omega
                        have hse2 : ¬ (el : Int) ≤ (segs : Int) := by omega
                        have hk0 : (0 : Int) ≤ (k : Int) := by omega
                        have hk1 : (k : Int) < (nk : Int) := by omega
                        clear hinr hin hI1 hI2 hgd hE hll hod hel HRI HS2 HC hcl
                        go_wp2_with fail
                        have hse3 : decide ((el : Int) ≤ (segs : Int)) = false := decide_eq_false (by omega)
                        go_quiet ((go_at_call 18; exact HCQ2.out _))
                        all_goals
                          go_wp2_with fail
                          go_roundw
                          case rel => exact ⟨t, segs + 1, t + 1, _, by omega, by omega, by omega, rfl, by go_num, by go_num, rfl, HR2⟩
                          case measure => simp [intOf]; omega
                  · obtain ⟨hs2, hov⟩ := HRI.out.over HNE.out (by rw [HLN.out]; omega)
                    have hse : segs = (s1.early k).length := by
                      rw [hrs.out, rsOf, List.length_append] at hs2
                      simp at hs2
                      omega
                    have hgd : rs.getD segs [] = s1.made k := by rw [hrs.out, rsOf, hse, getD_last]
                    have x2 := HX8.out.madeS hks
                    have hI1 := HX8.out.madeI hks
                    rw [HAL.out.made] at x2 hI1
                    rw [hgd] at hov
                    have hI2 : IntsAt w8 (some ⟨bo, l + last, none⟩) (s1.made k).length (fun i => (((s1.made k).getD i 0 : Nat) : Int)) := fun _ => ⟨bo, l + last, rfl, fun q hq => by
                      have := HRI.out.get (q := q) (by rw [hgd]; exact hq)
                      rw [hgd] at this
                      rw [Nat.add_assoc, (HCL.out (last + q) (by omega)).1, this]⟩
                    have hcut3 := fun w => run_cutL w bo l ol oc last (by omega) hocl
                    have HCQ : Hid (∀ m, Calls Try.prog 18 #[.slice (some ⟨mB1 k, 0, none⟩) (s1.made k).length (s1.made k).length, .slice (some ⟨bo, l + last, none⟩) (s1.made k).length (oc - last)] (w8.drewN m) fun e w' => e = .returned (.bool true) ∧ ∃ k', w' = (w8.drewN m).drewN k') := fun m =>
                      eqInts_true _ _ _ _ _ (fun i => (((s1.made k).getD i 0 : Nat) : Int)) (w8.drewN m) (by omega) hI1 hI2
                    obtain ⟨ml, hml⟩ : ∃ ml, ml = (s1.made k).length := ⟨_, rfl⟩
                    rw [← hml] at HCQ x2 hov
                    rw [show ol - last = ml by omega] at hcut3
                    obtain ⟨od, hod⟩ : ∃ od, od = oc - last := ⟨_, rfl⟩
                    rw [← hod] at HCQ
                    simp only [← hod] at hcut3
                    obtain ⟨ax, cx2, x1, _⟩ := HX8.out.earS hks
                    have HSE : Hid (segs = (s1.early k).length) := hse
                    have hk0 : (0 : Int) ≤ (k : Int) := by omega
                    have hk1 : (k : Int) < (nk : Int) := by omega
                    obtain rfl : ol = t := by omega
                    clear hI1 hI2 hgd hml hod hse HRI hov hs2
                    go_wp2_with fail
                    go_region_held3 (fun w' => w'.cell? ⟨B1 + 1, k, none⟩ = some (.slice (some ⟨mB1 k, 0, none⟩) ml ml)) (exact x2)
                      ((go_at_call 18; refine (HCQ.out _).mono ?_; rintro e' w' ⟨rfl, q, rfl⟩))
                    all_goals
                      cases rep with
                      | true =>
                        have hE : s.early = s1.early := (HAL.out.yes rfl).1
                        rw [hE, ← HSE.out] at x1
                        by_cases hs0 : (0 : Int) < (segs : Int)
                        · have HW2 : Hid (we + 1 = if true = true then psum (fun j => hasE (s1.early j)) (k + 1) else 0) := (by
                            have h1 := HWE.out
                            rw [if_pos rfl] at h1 ⊢
                            rw [psum, ← h1]
                            have : s1.early k ≠ [] := fun e => by have := HSE.out; rw [e] at this; simp at this; omega
                            rw [hasE, if_neg this] : we + 1 = if true = true then psum (fun j => hasE (s1.early j)) (k + 1) else 0)
                          clear HWE hE
                          go_wp2_with fail
                          go_roundw
                          case rel => exact ⟨k + 1, we + 1, f + 1, _, by omega, by omega, by omega, by go_num, by go_num, by go_num, rfl, HK1, HW2⟩
                          case measure => simp [intOf]; omega
                        · have HW2 : Hid (we = if true = true then psum (fun j => hasE (s1.early j)) (k + 1) else 0) := (by
                            have h1 := HWE.out
                            rw [if_pos rfl] at h1 ⊢
                            rw [psum, ← h1]
                            have : s1.early k = [] := List.eq_nil_of_length_eq_zero (by have := HSE.out; omega)
                            rw [hasE, if_pos this, Nat.add_zero] : we = if true = true then psum (fun j => hasE (s1.early j)) (k + 1) else 0)
                          clear HWE hE
                          go_wp2_with fail
                          go_roundw
                          case rel => exact ⟨k + 1, we, f + 1, _, by omega, by omega, by omega, by go_num, rfl, by go_num, rfl, HK1, HW2⟩
                          case measure => simp [intOf]; omega
                      | false =>
                        rw [(HAL.out.no rfl).1 k, List.length_nil] at x1
                        have HW2 : Hid (we = if false = true then psum (fun j => hasE (s1.early j)) (k + 1) else 0) := HWE
                        clear HWE
                        go_wp2_with fail
                        go_roundw
                        case rel => exact ⟨k + 1, we, f + 1, _, by omega, by omega, by omega, by go_num, rfl, by go_num, rfl, HK1, HW2⟩
                        case measure => simp [intOf]; omega
              · have g1 : w8.cell? ⟨w6.heap.size, f, none⟩ = some (.int .i64 (-1)) := by rw [HL8.out.cell hlt, hgi.out.other hlt hL]
                have HK1 : Hid (k = (stAt I true (f + 1)).n) := (by rw [own_other hL]; exact HKf.out : k = (stAt I true (f + 1)).n)
                clear hgi hL
                go_wp2_with fail
                go_roundw
                case rel => exact ⟨k, we, f + 1, m, by omega, hk, hwe, rfl, rfl, by go_num, rfl, HK1, HWE⟩
                case measure => simp [intOf]; omega
            · obtain rfl : N = f := by omega
              obtain rfl : nk = k := by rw [hnk.out, HAL.out.n, hs1.out]; exact HKf.out.symm
              have hbe : ∀ q, Below w.heap.size w (w8.drewN q) := fun q => below_drewN hb08 q
              cases rep with
              | true =>
                have hwc : we = cnt := by
                  have h1 := HWE.out
                  rw [if_pos rfl, hnk.out, HAL.out.n, HL2.out.cnt] at h1
                  rw [h1, hcnt.out, (HAL.out.yes rfl).2]
                subst hwc
                by_cases h0 : we = 0
                · have : en = true := HEN.out.2 (by rw [← hcnt.out]; exact h0)
                  subst this
                  subst h0
                  clear HWE HEN hgi
                  go_wp2_with fail
                  go_ret
                  exact ⟨rfl, hbe _⟩
                · have : en = false := by
                    cases en with
                    | false => rfl
                    | true => exact absurd (by rw [hcnt.out]; exact HEN.out.1 rfl) h0
                  subst this
                  have h0' : ((we : Int) == 0) = false := beq_eq_false_iff_ne.2 (by omega)
                  clear HWE HEN hgi
                  go_wp2_with fail
                  go_ret
                  exact ⟨rfl, hbe _⟩
              | false =>
                have hc0 : cnt = 0 := by rw [hcnt.out]; exact (HAL.out.no rfl).2
                have : en = true := HEN.out.2 (by rw [← hcnt.out]; exact hc0)
                subst this
                subst hc0
                clear HWE HEN hgi
                go_wp2_with fail
                go_ret
                exact ⟨rfl, hbe _⟩
end Go.Proofs.Qxb6600323a
