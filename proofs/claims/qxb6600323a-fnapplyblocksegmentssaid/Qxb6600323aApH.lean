import Derived.Test.Qxb6600323aApI
import Derived.Deep.CutRange
import Derived.BigRegion
namespace Go.Proofs.Qxb6600323a
open Go.RowKit
set_option linter.unusedVariables false
set_option linter.unusedSimpArgs false
attribute [local go_sem ↓] Go.wp_at_zero Go.wp_at_succ

theorem Try.info9Q : (Try.prog.info? 9).map (fun i => (i.zero, i.size, i.bytes)) = some (some (.string ⟨#[]⟩), 1, 16) := by kernel_rfl
theorem Try.info34Q : (Try.prog.info? 34).map (fun i => (i.zero, i.size, i.bytes)) = some (some (.slice none 0 0), 1, 24) := by kernel_rfl
theorem Try.info32Q : (Try.prog.info? 32).map (fun i => (i.zero, i.size, i.bytes)) = some (some (.slice none 0 0), 1, 24) := by kernel_rfl

theorem results_tmp7 {fn : Func} {t1 t2 t3 t4 t5 t6 t7 : Tmp} (h : fn.results = #[.tmp t1, .tmp t2, .tmp t3, .tmp t4, .tmp t5, .tmp t6, .tmp t7]) (tmps : Array Value) (P : Program) (w : World) :
    (results fn tmps).run P w = .ok (.tuple #[tmps.getD t1 undef, tmps.getD t2 undef, tmps.getD t3 undef, tmps.getD t4 undef, tmps.getD t5 undef, tmps.getD t6 undef, tmps.getD t7 undef]) w := by
  simp [results, h]

/-- What ZZApplyBlocks answers. -/
def Answer (w : World) (s : St) (e : Ending) (w' : World) : Prop :=
  ∃ B mB eB eR en, e = .returned (.tuple #[.slice (some ⟨B, 0, none⟩) s.n s.n, .slice (some ⟨B + 1, 0, none⟩) s.n s.n, .slice (some ⟨B + 2, 0, none⟩) s.n s.n, .bool en, .int .i64 s.cnt, .slice (some ⟨B + 3, 0, none⟩) s.n s.n, .int .i64 s.n]) ∧
    w.heap.size ≤ B ∧ Out w' B s s.n s.n s.n s.n s.n mB eB eR ∧ Below w.heap.size w w' ∧ (en = true ↔ s.cnt = 0)
theorem Out_start (w : World) (s : St) : Out ((((w.alloc (.cells (madeCells #[.string ⟨#[]⟩] s.n) 9)).alloc (.cells (madeCells #[.slice none 0 0] s.n) 34)).alloc (.cells (madeCells #[.slice none 0 0] s.n) 32)).alloc (.cells (madeCells #[.int .i64 0] s.n) 3)) w.heap.size s 0 0 0 0 0 (fun _ => 0) (fun _ => 0) (fun _ _ => 0) := by
  have h1 := World.rowIs_made w (.string ⟨#[]⟩) s.n 9
  have h2 := World.rowIs_made (w.alloc (.cells (madeCells #[.string ⟨#[]⟩] s.n) 9)) (.slice none 0 0) s.n 34
  have h3 := World.rowIs_made ((w.alloc (.cells (madeCells #[.string ⟨#[]⟩] s.n) 9)).alloc (.cells (madeCells #[.slice none 0 0] s.n) 34)) (.slice none 0 0) s.n 32
  have h4 := World.rowIs_made (((w.alloc (.cells (madeCells #[.string ⟨#[]⟩] s.n) 9)).alloc (.cells (madeCells #[.slice none 0 0] s.n) 34)).alloc (.cells (madeCells #[.slice none 0 0] s.n) 32)) (.int .i64 0) s.n 3
  simp only [World.size_alloc] at h2 h3 h4
  exact ⟨partR_start (((h1.alloc _).alloc _).alloc _), partR_start ((h2.alloc _).alloc _), partR_start (h3.alloc _), partR_start h4, fun j hj => absurd hj (Nat.not_lt_zero _), fun j hj => absurd hj (Nat.not_lt_zero _)⟩

theorem stAt_runs (I : Inp) (rep : Bool) (i : Nat) : ∀ j, j < (stAt I rep i).n → ∀ L ∈ (stAt I rep i).early j, L.length ≤ i := by
  induction i with
  | zero => intro j hj; exact absurd hj (Nat.not_lt_zero _)
  | succ i ih =>
    have hf := stAt_fits I rep i
    rw [stAt]
    revert ih hf
    generalize stAt I rep i = s
    intro ih hf
    unfold St.step
    split
    · intro j hj L hL
      have hj' : j < s.n + 1 := hj
      by_cases e : j = s.n
      · subst e; simp [St.new, upd_same] at hL
      · simp only [St.new, upd_other _ _ e] at hL
        have := ih j (by omega) L hL
        omega
    · rename_i j0 _
      split
      · intro j hj L hL
        have := ih j hj L hL
        omega
      · split
        · intro j hj L hL
          by_cases e : j = j0
          · subst e
            simp [St.set, St.bury, upd_same] at hL
            rcases hL with hL | rfl
            · have := ih j hj L hL
              omega
            · have := (hf.2 j hj).1
              omega
          · simp only [St.set, St.bury, upd_other _ _ e] at hL
            have := ih j hj L hL
            omega
        · intro j hj L hL
          have := ih j hj L hL
          omega
theorem Fill_start {w : World} {B nb : Nat} {s : St} {j : Nat} (h : B + 4 ≤ w.heap.size) (hn : w.heap.size = nb) : Fill (w.alloc (.cells (madeCells #[.slice none 0 0] (s.early j).length) 34)) B s j 0 nb (fun _ => 0) := by
  subst hn
  exact ⟨h, partR_start (World.rowIs_made _ _ _ _), fun r hr => absurd hr (Nat.not_lt_zero _)⟩
theorem below_undrew {N : Nat} {w w' : World} (h : Below N w.drew w') : Below N w w' := ⟨h.os, h.tape, h.output, h.size, h.block⟩

set_option maxRecDepth 100000 in
set_option maxHeartbeats 8000000 in
theorem blocks_any (hA : ApplySays) (rep : Bool) (aK aO : Option Addr) (nB cK cO : Nat) (aI aP : Nat → Option Addr) (nI cI cP : Nat → Nat) (kk : Nat → Nat → ByteArray) (oo : Nat → Nat → Int) (w : World)
    (hnB : nB ≤ 65536) (hn : psum nI nB ≤ 1048576) (hK : KeysAt w aK nB aI nI cI kk) (hO : OpsAt w aO nB aP nI cP oo) :
    Calls Try.prog 16 #[.slice aK nB cK, .slice aO nB cO, .bool rep] w fun e w' => Answer w (stAt (inpOf nB nI kk oo) rep (psum nI nB)) e w' := by
  have hmm := @run_makeMap Try.prog
  have HK : Hid (KeysAt w aK nB aI nI cI kk) := hK
  have HO : Hid (OpsAt w aO nB aP nI cP oo) := hO
  have HA : Hid ApplySays := hA
  have HN : Hid (psum nI nB ≤ 1048576) := hn
  clear hK hO hA hn
  go_enter Try.func16, Try.ntmps16
  go_wp2_with fail
  go_loopw [15, 16] (fun l i wr => ∃ k : Nat, k ≤ nB ∧ i = .int .i64 k ∧ l = .int .i64 (psum nI k) ∧ Hid (AQ w w.heap.size (inpOf nB nI kk oo) w.heap.size (w.heap.size + 1) (stAt (inpOf nB nI kk oo) rep (psum nI k)) wr)) (fun _ i _ => nB - (intOf i).toNat)
  case atStart => exact ⟨0, Nat.zero_le _, rfl, rfl, AQ_start w _⟩
  case round =>
    rename World => wo
    obtain ⟨k, hk, rfl, rfl, hq⟩ := hrel
    have hbel : Below w.heap.size w wo := hq.out.choose_spec.choose_spec.choose_spec.choose_spec.choose_spec.1.bel
    by_cases hlt : k < nB
    · obtain ⟨b, off, rfl, hc⟩ := (HK.out.below hbel) (by omega)
      obtain ⟨b2, off2, rfl, hc2⟩ := (HO.out.below hbel) (by omega)
      obtain ⟨c1, hk1⟩ := hc k hlt
      obtain ⟨c2, hk2⟩ := hc2 k hlt
      have HK1 := (id hk1 : Hid _)
      have HK2 := (id hk2 : Hid _)
      obtain ⟨base, hbase⟩ : ∃ base, Hid (base = psum nI k) := ⟨_, rfl⟩
      have hfin : base + nI k ≤ 1048576 := by
        have := psum_le nI (show k + 1 ≤ nB by omega)
        simp only [psum] at this
        have := HN.out
        rw [hbase.out]
        omega
      rw [← hbase.out] at hq
      rw [← hbase.out]
      have hmk := run_make_many (P := Try.prog) 67 71 (.agg #[.int .u8 0, .int .u8 0, .bool false, .string ⟨#[]⟩, .int .i64 0, .string ⟨#[]⟩, .string ⟨#[]⟩, .string ⟨#[]⟩, .string ⟨#[]⟩]) 9 96 Try.underlying67 Try.info71 (nI k) (by omega) (by omega)
      clear hc hc2 hk1 hk2
      go_wp2_with fail
      go_loopw [15, 20] (fun l i wi => ∃ p : Nat, p ≤ nI k ∧ i = .int .i64 p ∧ l = .int .i64 ((base + p : Nat) : Int) ∧ Below wo.heap.size wo wi ∧ Hid (wi.rowIs wo.heap.size 71 (nI k * 9) (partS (inpOf nB nI kk oo) base p))) (fun _ i _ => nI k - (intOf i).toNat)
      case atStart => exact ⟨0, Nat.zero_le _, rfl, rfl, (Below.refl _ _).alloc (Nat.le_refl _) _, partS_start wo _ _ _⟩
      case round =>
        obtain ⟨p, hp, rfl, rfl, hbi, hrow⟩ := hrel
        by_cases hltp : p < nI k
        · obtain ⟨b', off', ha1, hc1⟩ := HK1.out (by omega)
          obtain ⟨b2', off2', ha2, hc2⟩ := HK2.out (by omega)
          rw [ha1, ha2]
          have m1 := hc1 p hltp
          have m2 := hc2 p hltp
          have l1 := World.block_lt_of_cell? _ _ m1
          have l2 := World.block_lt_of_cell? _ _ m2
          rw [← hbi.cell l1] at m1
          rw [← hbi.cell l2] at m2
          simp only [] at l1 l2
          have hsl := hrow.out.lt
          have z0 := hrow.out.cell (i := p * 9) (by omega)
          have z1 := hrow.out.cell (i := p * 9 + 1) (by omega)
          have z2 := hrow.out.cell (i := p * 9 + 2) (by omega)
          have z3 := hrow.out.cell (i := p * 9 + 3) (by omega)
          have z4 := hrow.out.cell (i := p * 9 + 4) (by omega)
          have z5 := hrow.out.cell (i := p * 9 + 5) (by omega)
          have z6 := hrow.out.cell (i := p * 9 + 6) (by omega)
          have z7 := hrow.out.cell (i := p * 9 + 7) (by omega)
          have z8 := hrow.out.cell (i := p * 9 + 8) (by omega)
          have f0 := hrow.out.frozen (p * 9)
          have f1 := hrow.out.frozen (p * 9 + 1)
          have f2 := hrow.out.frozen (p * 9 + 2)
          have f3 := hrow.out.frozen (p * 9 + 3)
          have f4 := hrow.out.frozen (p * 9 + 4)
          have f5 := hrow.out.frozen (p * 9 + 5)
          have f6 := hrow.out.frozen (p * 9 + 6)
          have f7 := hrow.out.frozen (p * 9 + 7)
          have f8 := hrow.out.frozen (p * 9 + 8)
          obtain ⟨ln, hln⟩ : ∃ ln : Int, Hid (ln = ((base + p : Nat) : Int)) := ⟨_, rfl⟩
          have hlb : 0 ≤ ln ∧ ln ≤ 1048576 := by rw [hln.out]; omega
          obtain ⟨hl0, hl1⟩ := hlb
          rw [← hln.out]
          clear hc1 hc2 ha1 ha2
          go_wp2_with fail
          go_region
          all_goals
            go_wp2_with fail
            go_roundw
            case rel =>
              refine ⟨p + 1, by omega, by go_num, ?_, ?_, ?_⟩
              · rw [hln.out]; go_num
              · exact (((((((((hbi.setCell (Nat.le_refl _) _).setCell (Nat.le_refl _) _).setCell (Nat.le_refl _) _).setCell (Nat.le_refl _) _).setCell (Nat.le_refl _) _).setCell (Nat.le_refl _) _).setCell (Nat.le_refl _) _).setCell (Nat.le_refl _) _).setCell (Nat.le_refl _) _).drew
              · exact (partS_next hrow.out (by rw [hbase.out, inp_O hlt hltp]) (by rw [hln.out]) (by rw [hbase.out, inp_K hlt hltp])).drew
            case measure => simp [intOf]; omega
        · obtain rfl : p = nI k := by omega
          have hset : wr.rowIs wo.heap.size 71 (nI k * 9) (setC (inpOf nB nI kk oo) base) := hrow.out.congr (fun x hx => by unfold partS; rw [if_pos hx])
          have hCL := HA.out w w.heap.size (inpOf nB nI kk oo) w.heap.size (w.heap.size + 1) wo.heap.size base (nI k) rep (stAt (inpOf nB nI kk oo) rep base) wr (stAt_fits _ _ _) hfin (hq.out.withSet hbi hset)
          rw [steps_at] at hCL
          have HCL := (id hCL : Hid (Calls _ _ _ _ _))
          clear hCL hset
          go_wp2_with fail
          refine HCL.out.mono ?_
          rintro e w6 ⟨rfl, hab⟩
          have HQ : Hid (AQ w w.heap.size (inpOf nB nI kk oo) w.heap.size (w.heap.size + 1) (stAt (inpOf nB nI kk oo) rep (base + nI k)) w6) := hab.toQ
          clear hab HCL
          go_wp2_with fail
          go_roundw
          case rel => exact ⟨k + 1, by omega, by go_num, by rw [psum, hbase.out, Int.natCast_add], by rw [psum, ← hbase.out]; exact HQ⟩
          case measure => simp [intOf]; omega
    · obtain rfl : k = nB := by omega
      have hfits := stAt_fits (inpOf k nI kk oo) rep (psum nI k)
      have hruns := stAt_runs (inpOf k nI kk oo) rep (psum nI k)
      have hnn := HN.out
      obtain ⟨s, hS⟩ : ∃ s, Hid (stAt (inpOf k nI kk oo) rep (psum nI k) = s) := ⟨_, rfl⟩
      rw [hS.out] at hq hfits hruns
      obtain ⟨ov, em, M, Eo, E, hs, hqq, hc⟩ := hq.out
      obtain ⟨I, hI⟩ : ∃ I, Hid (inpOf k nI kk oo = I) := ⟨_, rfl⟩
      rw [hI.out] at hqq
      have hsn : s.n ≤ 1048576 := by have := hfits.1; omega
      obtain ⟨oa, oc, rfl⟩ : ∃ oa oc, ov = .slice oa s.n oc := by
        rcases hs.own.2 with ⟨q1, q2⟩ | ⟨g, cap, cur, q1, _⟩
        · exact ⟨none, 0, by rw [q1, q2]⟩
        · exact ⟨_, _, q1⟩
      have hfitM : Hid (∀ j, j < s.n → (s.made j).length ≤ 1048576 ∧ (s.early j).length ≤ 1048576) := fun j hj => by
        have := hfits.2 j hj
        omega
      have hfitE : Hid (∀ j, j < s.n → ∀ L ∈ s.early j, L.length ≤ 1048576) := fun j hj L hL => by
        have := hruns j hj L hL
        omega
      have d2 : wo.cell? ⟨w.heap.size, 2, none⟩ = some (.slice oa s.n oc) := hs.sec.cell (i := 2) (by omega)
      have d3 : wo.cell? ⟨w.heap.size, 3, none⟩ = some (.map em) := hs.sec.cell (i := 3) (by omega)
      have hlS := hs.sec.lt
      have d2a : ∀ o1, (wo.alloc o1).cell? ⟨w.heap.size, 2, none⟩ = some (.slice oa s.n oc) := fun o1 => cell_al d2 o1
      have d2b : ∀ o1 o2, ((wo.alloc o1).alloc o2).cell? ⟨w.heap.size, 2, none⟩ = some (.slice oa s.n oc) := fun o1 o2 => cell_al (cell_al d2 o1) o2
      have d2c : ∀ o1 o2 o3, (((wo.alloc o1).alloc o2).alloc o3).cell? ⟨w.heap.size, 2, none⟩ = some (.slice oa s.n oc) := fun o1 o2 o3 => cell_al (cell_al (cell_al d2 o1) o2) o3
      have HSS : Hid (ABs w w.heap.size wo w.heap.size (w.heap.size + 1) s (.slice oa s.n oc) em M Eo E) := hs
      have HQQ : Hid (ABq w.heap.size I wo s M E) := hqq
      have HC : Hid (em.isSome = true → 0 < s.cnt) := hc
      have hk1 := run_make_row' (P := Try.prog) 28 9 (.string ⟨#[]⟩) 16 Try.underlying28 Try.info9Q rfl .i64 .i64 s.n (by omega) (by omega)
      have hk2 := run_make_row' (P := Try.prog) 32 34 (.slice none 0 0) 24 Try.underlying32 Try.info34Q rfl .i64 .i64 s.n (by omega) (by omega)
      have hk3 := run_make_row' (P := Try.prog) 33 32 (.slice none 0 0) 24 Try.underlying33 Try.info32Q rfl .i64 .i64 s.n (by omega) (by omega)
      have hk4 := run_make_row' (P := Try.prog) 34 3 (.int .i64 0) 8 Try.underlying34 Try.info3Q rfl .i64 .i64 s.n (by omega) (by omega)
      have HO4 : Hid _ := Out_start wo s
      clear hs hqq hc hq hfits hruns hnn HK HO HA HN hbel
      go_wp2_with fail
      clear d2a d2b d2c hk1 hk2 hk3 hk4
      go_loopw [25] (fun i wr => ∃ j : Nat, j ≤ s.n ∧ i = .int .i64 j ∧ Below wo.heap.size wo wr ∧ Hid (∃ mB eB eR, Out wr wo.heap.size s j j j j j mB eB eR)) (fun i _ => s.n - (intOf i).toNat)
      case atStart => exact ⟨0, Nat.zero_le _, rfl, ((((Below.refl _ _).alloc (Nat.le_refl _) _).alloc (by simp) _).alloc (by simp; omega) _).alloc (by simp; omega) _, ⟨_, _, _, HO4.out⟩⟩
      case round =>
        clear HO4
        obtain ⟨j, hj, rfl, hbj, hout⟩ := hrel
        have e2 : wr.cell? ⟨w.heap.size, 2, none⟩ = some (.slice oa s.n oc) := by rw [hbj.cell (by exact hlS)]; exact d2
        have e3 : wr.cell? ⟨w.heap.size, 3, none⟩ = some (.map em) := by rw [hbj.cell (by exact hlS)]; exact d3
        by_cases hltj : j < s.n
        · obtain ⟨mB, eB, eR, hO⟩ := hout.out
          obtain ⟨ob, cap, q, hcap, hlo, hoc, hof⟩ := HSS.out.ovIs (by omega)
          simp only [Value.slice.injEq] at q
          obtain ⟨rfl, _, rfl⟩ := q
          have k0 : wr.cell? ⟨ob, j * 2, none⟩ = some (.string (s.key j)) := by rw [hbj.cell (by exact hlo)]; exact (hoc j hltj).1
          have k1 : wr.cell? ⟨ob, j * 2 + 1, none⟩ = some (M j) := by rw [hbj.cell (by exact hlo)]; exact (hoc j hltj).2
          obtain ⟨key, hkey⟩ : ∃ key, Hid (s.key j = key) := ⟨_, rfl⟩
          rw [hkey.out] at k0
          have hO1 := hO.set1
          rw [hkey.out] at hO1
          have hb1 : Below wo.heap.size wo (wr.setCell ⟨wo.heap.size, j, none⟩ (.string key)) := hbj.setCell (Nat.le_refl _) _
          have hCL := lines_any I _ (M j) (s.made j) ((HQQ.out.runM j hltj).fresh hb1.block) (hfitM.out j hltj).1
          rw [sec_size] at hCL
          have HCL := (id hCL : Hid (Calls _ _ _ _ _))
          clear hCL
          have g1 := hO.r1.cell (i := j) hltj
          have gf1 := hO.r1.frozen j
          have hlB := hO.r4.lt
          have HO1 : Hid _ := hO1
          clear hO1 hO hout hoc hof
          have hj0 : (0 : Int) ≤ (j : Int) := by omega
          have hj1 : (j : Int) < (s.n : Int) := by omega
          go_wp2_with fail
          refine HCL.out.mono ?_
          rintro e w2 ⟨rfl, hrow2, hb2⟩
          have hsz : (wr.setCell ⟨wo.heap.size, j, none⟩ (.string key)).heap.size = wr.heap.size := sec_size _ _ _
          have hb2' := hb2
          rw [← hsz] at hb2'
          have hbo2 : Below wo.heap.size wo w2 := hb1.trans (hb2.mono (by omega))
          have hO2 := HO1.out.kept hb2'.block
          have hO3 := hO2.set2 (nb := wr.heap.size) (by omega) hrow2
          have g2 : w2.cell? ⟨wo.heap.size + 1, j, none⟩ = _ := hO2.r2.cell (i := j) hltj
          have gf2 := hO2.r2.frozen j
          have g4 : w2.cell? ⟨wo.heap.size + 1 + 1 + 1, j, none⟩ = _ := hO2.r4.cell (i := j) hltj
          have gf4 : w2.frozen? ⟨wo.heap.size + 1 + 1 + 1, j, none⟩ = false := hO2.r4.frozen j
          have hlB2 : wo.heap.size + 1 + 1 + 1 < w2.heap.size := hO2.r4.lt
          have m2 : w2.cell? ⟨w.heap.size, 2, none⟩ = some (.slice (some ⟨ob, 0, none⟩) s.n oc) := by rw [hbo2.cell (by exact hlS)]; exact d2
          have m3 : w2.cell? ⟨w.heap.size, 3, none⟩ = some (.map em) := by rw [hbo2.cell (by exact hlS)]; exact d3
          have m0 : w2.cell? ⟨ob, j * 2, none⟩ = some (.string key) := by rw [hbo2.cell (by exact hlo), ← hbj.cell (by exact hlo)]; exact k0
          obtain ⟨ml, hml⟩ : ∃ ml, Hid ((s.made j).length = ml) := ⟨_, rfl⟩
          rw [hml.out]
          rw [hml.out] at hO3
          have hbo3 : Below wo.heap.size wo (w2.setCell ⟨wo.heap.size + 1, j, none⟩ (.slice (some ⟨wr.heap.size, 0, none⟩) ml ml)) := hbo2.setCell (by show wo.heap.size ≤ wo.heap.size + 1; omega) _
          have hmap3 := HSS.out.place.of_block (hbo3.block _ HSS.out.place.lt)
          have hpk : s.place key = some j := (HSS.out.ok key j).2 ⟨hltj, hkey.out⟩
          have hv : (fun k => (s.place k).map fun j : Nat => Value.int .i64 (j : Int)) key = some (.int .i64 j) := by simp [hpk]
          have HO4 : Hid (Out _ _ _ _ _ _ _ _ _ _ _) := hO3.set4
          have HPK : Hid (s.place key = some j) := hpk
          have hz9 : ∀ w, (zeroValue 3).run Try.prog w = .ok (.int .i64 0) w := Try.zero3
          have hne := fun w => run_neq_map_nil (P := Try.prog) w 63 9 76 em Try.underlying63
          clear hb2 hb2' hO2 hO3 hpk HCL HO1 hrow2 e2 e3 k0 k1 g1 gf1 hb1
          obtain ⟨w4, hw4⟩ : ∃ w4, Hid (w4 = (w2.setCell ⟨wo.heap.size + 1, j, none⟩ (.slice (some ⟨wr.heap.size, 0, none⟩) ml ml)).setCell ⟨wo.heap.size + 1 + 1 + 1, j, none⟩ (.int .i64 j)) := ⟨_, rfl⟩
          have hbo4 : Below wo.heap.size wo w4 := by rw [hw4.out]; exact hbo3.setCell (by show wo.heap.size ≤ wo.heap.size + 1 + 1 + 1; omega) _
          obtain ⟨mB', HO5⟩ : ∃ mB', Hid (Out w4 wo.heap.size s (j + 1) (j + 1) j (j + 1) j mB' eB eR) := ⟨_, by rw [hw4.out]; exact HO4.out⟩
          clear HO4
          cases em with
          | none =>
            have he : s.early j = [] := (HSS.out.noE rfl).2 j hltj
            have HF : Hid (Below wo.heap.size wo w4 ∧ ∃ mB eB eR, Out w4 wo.heap.size s (j + 1) (j + 1) (j + 1) (j + 1) (j + 1) mB eB eR) := ⟨hbo4, _, _, _, (HO5.out.skip he).skip5 he⟩
            clear he
            go_wp2_with (at_lookup; refine wpList_look_ok_some rfl rfl (str_fine Try.underlying9) Try.underlying66 hz9 key rfl rfl hmap3 hv ?_)
            rw [← hw4.out]
            go_roundw
            case rel => exact ⟨j + 1, by omega, by go_num, HF.out.1, HF.out.2⟩
            case measure => simp [intOf]; omega
          | some m =>
            have x2 : w4.cell? ⟨w.heap.size, 2, none⟩ = some (.slice (some ⟨ob, 0, none⟩) s.n oc) := by rw [hbo4.cell (by exact hlS)]; exact d2
            have x3 : w4.cell? ⟨w.heap.size, 3, none⟩ = some (.map (some m)) := by rw [hbo4.cell (by exact hlS)]; exact d3
            have x0 : w4.cell? ⟨ob, j * 2, none⟩ = some (.string key) := by
              have := (hbo4.cell (p := ⟨ob, j * 2, none⟩) (by exact hlo)).trans (hbo2.cell (p := ⟨ob, j * 2, none⟩) (by exact hlo)).symm
              rw [this]; exact m0
            have hmE := (HSS.out.map m rfl).of_block (hbo4.block _ (HSS.out.map m rfl).lt)
            have hl1 : (Instr.lookup 63 (.map (some m)) (.string key) false).run Try.prog w4.drew = .ok (earlyOf s Eo j) w4.drew := by
              have := (MapIs.drew hmE).look (P := Try.prog) (kt := 9) (e := 76) (str_fine Try.underlying9) (t := 63) Try.underlying63 (Try.zero76 _) key false
              refine this.trans ?_
              simp [HPK.out, earlyOf]
              by_cases e : s.early j = [] <;> simp [e]
            clear hmE
            by_cases he : s.early j = []
            · rw [earlyOf, if_pos he] at hl1
              have HF : Hid (Below wo.heap.size wo w4.drew ∧ ∃ mB eB eR, Out w4.drew wo.heap.size s (j + 1) (j + 1) (j + 1) (j + 1) (j + 1) mB eB eR) := ⟨hbo4.drew, _, _, _, ((HO5.out.skip he).skip5 he).drew⟩
              clear he
              have hnq := fun w => run_neq_slice_nil_any (P := Try.prog) w 76 67 none 0 0 0 0 Try.underlying76
              go_wp2_with (at_lookup; refine wpList_look_ok_some rfl rfl (str_fine Try.underlying9) Try.underlying66 hz9 key rfl rfl hmap3 hv ?_)
              rw [← hw4.out]
              go_region_held3 (fun w' => w'.cell? ⟨w.heap.size, 2, none⟩ = some (.slice (some ⟨ob, 0, none⟩) s.n oc) ∧ w'.cell? ⟨w.heap.size, 3, none⟩ = some (.map (some m)) ∧ w'.cell? ⟨ob, j * 2, none⟩ = some (.string key) ∧ (Instr.lookup 63 (.map (some m)) (.string key) false).run Try.prog w' = .ok (.slice none 0 0) w') (exact ⟨x2, x3, x0, hl1⟩) (fail)
              go_wp2_with fail
              go_roundw
              case rel => exact ⟨j + 1, by omega, by go_num, HF.out.1, HF.out.2⟩
              case measure => simp [intOf]; omega
            · rw [earlyOf, if_neg he] at hl1
              have hown := HSS.out.rows j hltj he
              obtain ⟨eg, ec, hEo, hle⟩ : ∃ eg ec, Eo j = .slice (some ⟨eg, 0, none⟩) (s.early j).length ec ∧ eg < wo.heap.size := by
                rcases hown.2 with ⟨_, q⟩ | ⟨g, cap, cur, q1, _, q2, _⟩
                · exact absurd (List.eq_nil_of_length_eq_zero q) he
                · exact ⟨g, cap, q1, (Array.getElem?_eq_some_iff.1 q2).1⟩
              have HE : Hid (∀ r, r < (s.early j).length → wo.cell? ⟨eg, r, none⟩ = some (E j r)) := fun r hr => by
                have := hown.cells (g := eg) (by rw [hEo]; rfl) r (E j r) (by simp [eL, hr])
                rw [← this]
                congr 1
                unfold Addr.add
                split <;> simp_all
              rw [hEo] at hl1
              obtain ⟨el, hel⟩ : ∃ el, Hid ((s.early j).length = el) := ⟨_, rfl⟩
              rw [hel.out] at hl1
              have hel0 : el ≤ 1048576 := by rw [← hel.out]; exact (hfitM.out j hltj).2
              have hnq := fun w => run_neq_slice_nil_any (P := Try.prog) w 76 67 (some ⟨eg, 0, none⟩) el ec 0 0 Try.underlying76
              have hk5 := run_make_row' (P := Try.prog) 32 34 (.slice none 0 0) 24 Try.underlying32 Try.info34Q rfl .i64 .i64 el (by omega) (by omega)
              have g3 : w4.cell? ⟨wo.heap.size + 1 + 1, j, none⟩ = _ := HO5.out.r3.cell (i := j) hltj
              have gf3 : w4.frozen? ⟨wo.heap.size + 1 + 1, j, none⟩ = false := HO5.out.r3.frozen j
              have hlB4 : wo.heap.size + 1 + 1 + 1 < w4.heap.size := HO5.out.r4.lt
              have HNE : Hid (s.early j ≠ []) := he
              have hj3 : wo.heap.size + 1 + 1 < w4.heap.size := by omega
              have g3a : ∀ o, (w4.alloc o).cell? ⟨wo.heap.size + 1 + 1, j, none⟩ = _ := fun o => cell_al g3 o
              have gf3a : ∀ o, (w4.alloc o).frozen? ⟨wo.heap.size + 1 + 1, j, none⟩ = false := fun o => (World.frozen?_of_block (Below.heap_alloc _ _ _ hj3)).trans gf3
              clear hown hEo he
              go_wp2_with (at_lookup; refine wpList_look_ok_some rfl rfl (str_fine Try.underlying9) Try.underlying66 hz9 key rfl rfl hmap3 hv ?_)
              rw [← hw4.out]
              go_region_held3 (fun w' => w'.cell? ⟨w.heap.size, 2, none⟩ = some (.slice (some ⟨ob, 0, none⟩) s.n oc) ∧ w'.cell? ⟨w.heap.size, 3, none⟩ = some (.map (some m)) ∧ w'.cell? ⟨ob, j * 2, none⟩ = some (.string key) ∧ (Instr.lookup 63 (.map (some m)) (.string key) false).run Try.prog w' = .ok (.slice (some ⟨eg, 0, none⟩) el ec) w') (exact ⟨x2, x3, x0, hl1⟩) (fail)
              go_wp2_with fail
              go_loopw [29] (fun i wi => ∃ e : Nat, e ≤ el ∧ i = .int .i64 e ∧ Below wo.heap.size wo wi ∧ w4.heap.size < wi.heap.size ∧ Hid (∃ eB' q, Out wi wo.heap.size s (j + 1) (j + 1) (j + 1) (j + 1) j mB' eB' eR ∧ eB' j = w4.heap.size ∧ Fill wi wo.heap.size s j e w4.heap.size q ∧ ∀ j', j' < j → s.early j' ≠ [] → eB' j' ≠ w4.heap.size)) (fun i _ => el - (intOf i).toNat)
              case atStart =>
                refine ⟨0, Nat.zero_le _, rfl, ((hbo4.setCell (by show wo.heap.size ≤ wo.heap.size + 1 + 1; omega) _).alloc (by rw [sec_size]; omega) _).drew, by show w4.heap.size < (World.alloc _ _).heap.size; rw [World.size_alloc, sec_size]; omega, ?_⟩
                rw [← hel.out]
                refine ⟨upd eB j w4.heap.size, fun _ => 0, ((HO5.out.set3 (Nat.le_refl _) HNE.out _).alloc _).drew, upd_same _ _ _, (Fill_start (by rw [sec_size]; omega) (sec_size _ _ _)).kept (fun _ _ => rfl), ?_⟩
                intro j' hj' he'
                rw [upd_other _ _ (by omega)]
                have := (HO5.out.eR j' hj' he').2.1.lt
                omega
              case round =>
                rename World => wi
                obtain ⟨e, hee, rfl, hbi, hszi, hfill⟩ := hrel
                obtain ⟨eB', q, hOi, heB, hF, hneq⟩ := hfill.out
                by_cases hlte : e < el
                · obtain ⟨L, hL⟩ : ∃ L, (s.early j)[e]? = some L := ⟨_, List.getElem?_eq_getElem (by rw [hel.out]; exact hlte)⟩
                  have hLd : (s.early j).getD e [] = L := by rw [List.getD_eq_getElem?_getD, hL]; rfl
                  have hLl := hfitE.out j hltj L (List.mem_of_getElem? hL)
                  have hRun := ((HQQ.out.runE j e L hltj hL).fresh hbi.block).fresh (w' := wi.drew) (fun _ _ => rfl)
                  have hCL := lines_any I wi.drew (E j e) L hRun hLl
                  have HCL := (id hCL : Hid (Calls _ _ _ _ _))
                  have p3 : wi.cell? ⟨wo.heap.size + 1 + 1, j, none⟩ = some (.slice (some ⟨w4.heap.size, 0, none⟩) el el) := by
                    have := hOi.r3.cell (i := j) hltj
                    rw [partR, if_pos (by omega), earC, if_neg HNE.out, heB, hel.out] at this
                    exact this
                  have pE : wi.cell? ⟨eg, e, none⟩ = some (E j e) := by rw [hbi.cell (by exact hle)]; exact HE.out e (by rw [hel.out]; exact hlte)
                  clear hCL hRun hfill
                  go_wp2_with fail
                  have hn3 : wo.heap.size + 1 + 1 ≠ w4.heap.size := by omega
                  have hnE : eg ≠ w4.heap.size := by omega
                  have HOF : Hid (Out wi wo.heap.size s (j + 1) (j + 1) (j + 1) (j + 1) j mB' eB' eR ∧ Fill wi wo.heap.size s j e w4.heap.size q ∧ (∀ j', j' < j → s.early j' ≠ [] → eB' j' ≠ w4.heap.size) ∧ eB' j = w4.heap.size ∧ (s.early j).getD e [] = L) := ⟨hOi, hF, hneq, heB, hLd⟩
                  have hl3 : wo.heap.size + 1 + 1 < wi.heap.size := by omega
                  have hlE : eg < wi.heap.size := by omega
                  have he0 : (0 : Int) ≤ (e : Int) := by omega
                  have he1 : (e : Int) < (el : Int) := by omega
                  clear hOi hF hneq heB hL hLd x2 x3 x0 hl1
                  go_region_held3 (fun w' => w'.cell? ⟨wo.heap.size + 1 + 1, j, none⟩ = some (.slice (some ⟨w4.heap.size, 0, none⟩) el el) ∧ w'.cell? ⟨eg, e, none⟩ = some (E j e))
                    (first | exact ⟨p3, pE⟩ | exact ⟨p3b, pEb⟩ | exact ⟨cell_so p3b hn3, cell_so pEb hnE⟩)
                    ((go_at_call 37; refine HCL.out.mono ?_; rintro e' w6 ⟨rfl, hrow6, hb6⟩; have hb6' := below_undrew hb6; have p3b := (hb6'.cell (p := ⟨wo.heap.size + 1 + 1, j, none⟩) hl3).trans p3; have pEb := (hb6'.cell (p := ⟨eg, e, none⟩) hlE).trans pE; have HF6 : Hid _ := HOF.out.2.1.kept hb6'.block; have y1 := HF6.out.2.1.cell (i := e) (by rw [hel.out]; exact hlte); have y2 := HF6.out.2.1.frozen e; have HR6 : Hid (w6.rowIs wi.heap.size 3 L.length (lineC L) ∧ Below wi.heap.size wi w6) := ⟨hrow6, hb6'⟩; clear hrow6 hb6 hb6'))
                  all_goals
                    go_wp2_with fail
                    go_roundw
                    case rel =>
                      obtain ⟨hOi, hF, hneq, heB, hLd⟩ := HOF.out
                      have hset := (show Fill w6 wo.heap.size s j e w4.heap.size q from HF6.out).set (nb2 := wi.heap.size) (by omega) (by rw [hLd]; exact HR6.out.1)
                      rw [hLd] at hset
                      exact ⟨e + 1, by omega, by go_num, (hbi.trans (HR6.out.2.mono hbi.size)).setCell (by show wo.heap.size ≤ w4.heap.size; omega) _, by rw [sec_size]; have := HR6.out.2.size; omega, ⟨eB', upd q e wi.heap.size, (hOi.kept HR6.out.2.block).fill HF6.out hneq _, heB, hset, hneq⟩⟩
                    case measure => simp [intOf]; omega
                · obtain rfl : e = el := by omega
                  have HF : Hid (Below wo.heap.size wo wi ∧ ∃ mB eB eR, Out wi wo.heap.size s (j + 1) (j + 1) (j + 1) (j + 1) (j + 1) mB eB eR) := ⟨hbi, _, _, _, hOi.close heB (by rw [hel.out]; exact hF)⟩
                  clear hOi hF hneq heB hfill x2 x3 x0 hl1
                  go_wp2_with fail
                  go_roundw
                  case rel => exact ⟨j + 1, by omega, by go_num, HF.out.1, HF.out.2⟩
                  case measure => simp [intOf]; omega
        · obtain rfl : j = s.n := by omega
          obtain ⟨es, cl, hes, hec, _⟩ := HSS.out.place.of_block (hbj.block _ HSS.out.place.lt)
          have hne := fun w => run_eql_map_nil (P := Try.prog) w 63 9 76 em Try.underlying63
          have hu63 : Try.prog.underlying 63 = some (.map (Try.prog.mapKeyOf 63) (Try.prog.mapElemOf 63)) := by kernel_rfl
          have hu66 : Try.prog.underlying 66 = some (.map (Try.prog.mapKeyOf 66) (Try.prog.mapElemOf 66)) := by kernel_rfl
          have hln1 := fun ty k => run_len_map (P := Try.prog) (wr.drewN k) 66 ty (w.heap.size + 1) es cl hu66 hes
          have hln0 := fun ty => run_len_nilMap (P := Try.prog) wr.drew 63 ty hu63
          have HU63 : Hid (Try.prog.underlying 63 = some (.map (Try.prog.mapKeyOf 63) (Try.prog.mapElemOf 63))) := hu63
          clear hu63 hu66
          cases em with
          | none =>
            go_wp2_with fail
            go_quiet (fail)
            go_wp2_with fail
            refine bodyPost_ret (results_tmp7 rfl _ _ _) rfl ?_
            rw [hS.out]
            obtain ⟨mB, eB, eR, hO⟩ := hout.out
            have hcn := (HSS.out.noE rfl).1
            exact ⟨wo.heap.size, mB, eB, eR, true, by simp [hcn], by omega, hO.kept (fun _ _ => rfl), below_drewN (HSS.out.bel.trans (hbj.mono (by omega))) _, by simp [hcn]⟩
          | some m =>
            obtain ⟨es2, cl2, hes2, hec2, _⟩ := (HSS.out.map m rfl).of_block (hbj.block _ (HSS.out.map m rfl).lt)
            have hln2 := fun ty k => run_len_map (P := Try.prog) (wr.drewN k) 63 ty m es2 cl2 HU63.out hes2
            go_wp2_with fail
            go_quiet (fail)
            go_wp2_with fail
            refine bodyPost_ret (results_tmp7 rfl _ _ _) rfl ?_
            rw [hS.out]
            obtain ⟨mB, eB, eR, hO⟩ := hout.out
            have hcn := HC.out rfl
            exact ⟨wo.heap.size, mB, eB, eR, false, by simp [hec2], by omega, hO.kept (fun _ _ => rfl), below_drewN (HSS.out.bel.trans (hbj.mono (by omega))) _, by simp; omega⟩
end Go.Proofs.Qxb6600323a
