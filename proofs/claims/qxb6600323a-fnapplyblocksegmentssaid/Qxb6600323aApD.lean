import Derived.Test.Qxb6600323aApD0
namespace Go.Proofs.Qxb6600323a
open Go.RowKit
set_option linter.unusedVariables false
set_option linter.unusedSimpArgs false
attribute [local go_sem ↓] Go.wp_at_zero Go.wp_at_succ

set_option maxRecDepth 100000 in
set_option maxHeartbeats 16000000 in
theorem applyBlock_any (w0 : World) (N : Nat) (I : Inp) (SB PM sb base len : Nat) (rep : Bool) (s : St) (w : World) (hfit : s.Fits base) (hlen : base + len ≤ 1048576) (hab : AB w0 N I SB PM sb base len s w) :
    Calls Try.prog 36 #[.pointer (some ⟨SB, 0, none⟩), .slice (some ⟨sb, 0, none⟩) len len, .map (some PM), .bool rep] w fun e w' => e = .returned (.tuple #[]) ∧ AB w0 N I SB PM sb base len (steps I rep s base len) w' := by
  have HF : Hid (s.Fits base) := hfit
  have HAB : Hid (AB w0 N I SB PM sb base len s w) := hab
  clear hfit hab
  go_enter Try.func36, Try.ntmps36
  go_wp2_with fail
  go_loopw [15] (fun i wr => ∃ p : Nat, p ≤ len ∧ i = .int .i64 p ∧ Hid (AB w0 N I SB PM sb base len (steps I rep s base p) wr)) (fun i _ => len - (intOf i).toNat)
  case atStart => exact ⟨0, Nat.zero_le _, rfl, HAB⟩
  case round =>
    obtain ⟨p, hp, rfl, hg⟩ := hrel
    clear HAB
    by_cases hlt : p < len
    · obtain ⟨s2, hst, hs2⟩ : ∃ s2, Hid (s2 = (steps I rep s base p).step I rep (base + p)) ∧ Hid (steps I rep s base (p + 1) = s2) := ⟨_, rfl, rfl⟩
      have hft := steps_fits HF.out I rep p
      revert hg hst hft
      generalize steps I rep s base p = s1
      intro hg hst hft
      obtain ⟨ov, em, M, Eo, E, hs, hr, hc⟩ := hg.out
      have HC : Hid (em.isSome = true → 0 < s1.cnt) := hc
      clear hc
      obtain ⟨k, hk⟩ : ∃ k, Hid (k = I.K (base + p)) := ⟨_, rfl⟩
      obtain ⟨o, ho⟩ : ∃ o, Hid (o = I.O (base + p)) := ⟨_, rfl⟩
      obtain ⟨ln, hln⟩ : ∃ ln : Int, Hid (ln = ((base + p : Nat) : Int)) := ⟨_, rfl⟩
      have hasg : asg I (base + p) = [.int .u8 o, .int .u8 0, .bool false, .string ⟨#[]⟩, .int .i64 ln, .string ⟨#[]⟩, .string ⟨#[]⟩, .string k, .string ⟨#[]⟩] := by rw [asg, hk.out, ho.out, hln.out]
      have c0 : wr.cell? ⟨sb, p * 9, none⟩ = some (.int .u8 o) := hr.line hlt (f := 0) (by rw [hasg]; rfl)
      have c1 : wr.cell? ⟨sb, p * 9 + 1, none⟩ = some (.int .u8 0) := hr.line hlt (by rw [hasg]; rfl)
      have c2 : wr.cell? ⟨sb, p * 9 + 2, none⟩ = some (.bool false) := hr.line hlt (by rw [hasg]; rfl)
      have c3 : wr.cell? ⟨sb, p * 9 + 3, none⟩ = some (.string ⟨#[]⟩) := hr.line hlt (by rw [hasg]; rfl)
      have c4 : wr.cell? ⟨sb, p * 9 + 4, none⟩ = some (.int .i64 ln) := hr.line hlt (by rw [hasg]; rfl)
      have c5 : wr.cell? ⟨sb, p * 9 + 5, none⟩ = some (.string ⟨#[]⟩) := hr.line hlt (by rw [hasg]; rfl)
      have c6 : wr.cell? ⟨sb, p * 9 + 6, none⟩ = some (.string ⟨#[]⟩) := hr.line hlt (by rw [hasg]; rfl)
      have c7 : wr.cell? ⟨sb, p * 9 + 7, none⟩ = some (.string k) := hr.line hlt (by rw [hasg]; rfl)
      have c8 : wr.cell? ⟨sb, p * 9 + 8, none⟩ = some (.string ⟨#[]⟩) := hr.line hlt (by rw [hasg]; rfl)
      have hz9 : ∀ w, (zeroValue 3).run Try.prog w = .ok (.int .i64 0) w := Try.zero3
      obtain ⟨wa, hwa⟩ : ∃ wa, Hid (wa = wr.alloc (.cells #[.int .u8 o, .int .u8 0, .bool false, .string ⟨#[]⟩, .int .i64 ln, .string ⟨#[]⟩, .string ⟨#[]⟩, .string k, .string ⟨#[]⟩] 71)) := ⟨_, rfl⟩
      have hmapr := hs.place
      have hsa : ABs w0 N wa SB PM s1 ov em M Eo E := by rw [hwa.out]; exact hs.fresh (World.grownBy_alloc _ _ _)
      have hra : ABr N I wa sb base len s1 M E := by rw [hwa.out]; exact hr.fresh (World.grownBy_alloc _ _ _)
      obtain ⟨bx, hbe⟩ : ∃ bx, Hid (bx = wr.heap.size) := ⟨_, rfl⟩
      have hbx : wa.rowIs bx 71 9 (fun f => (asg I (base + p)).getD f undef) := by
        rw [hwa.out, hasg, hbe.out]
        exact World.rowIs_alloc wr #[.int .u8 o, .int .u8 0, .bool false, .string ⟨#[]⟩, .int .i64 ln, .string ⟨#[]⟩, .string ⟨#[]⟩, .string k, .string ⟨#[]⟩] 71 _ (fun i hi => by
          match i, hi with
          | 0, _ => rfl
          | 1, _ => rfl
          | 2, _ => rfl
          | 3, _ => rfl
          | 4, _ => rfl
          | 5, _ => rfl
          | 6, _ => rfl
          | 7, _ => rfl
          | 8, _ => rfl)
      have b0 : wa.cell? ⟨bx, 0, none⟩ = some (.int .u8 o) := by rw [hbx.cell (by omega), hasg]; rfl
      have b1 : wa.cell? ⟨bx, 1, none⟩ = some (.int .u8 0) := by rw [hbx.cell (by omega), hasg]; rfl
      have b2 : wa.cell? ⟨bx, 2, none⟩ = some (.bool false) := by rw [hbx.cell (by omega), hasg]; rfl
      have b3 : wa.cell? ⟨bx, 3, none⟩ = some (.string ⟨#[]⟩) := by rw [hbx.cell (by omega), hasg]; rfl
      have b4 : wa.cell? ⟨bx, 4, none⟩ = some (.int .i64 ln) := by rw [hbx.cell (by omega), hasg]; rfl
      have b5 : wa.cell? ⟨bx, 5, none⟩ = some (.string ⟨#[]⟩) := by rw [hbx.cell (by omega), hasg]; rfl
      have b6 : wa.cell? ⟨bx, 6, none⟩ = some (.string ⟨#[]⟩) := by rw [hbx.cell (by omega), hasg]; rfl
      have b7 : wa.cell? ⟨bx, 7, none⟩ = some (.string k) := by rw [hbx.cell (by omega), hasg]; rfl
      have b8 : wa.cell? ⟨bx, 8, none⟩ = some (.string ⟨#[]⟩) := by rw [hbx.cell (by omega), hasg]; rfl
      have hlb := World.block_lt_of_cell? wa _ b0
      simp only [] at hlb
      have hlS := hsa.sec.lt
      have d2 : wa.cell? ⟨SB, 2, none⟩ = some ov := hsa.sec.cell (i := 2) (by omega)
      have HRM : Hid (∀ j, j < s1.n → Run I wr (M j) (s1.made j)) := hr.runM
      have HS : Hid (ABs w0 N wr SB PM s1 ov em M Eo E) := hs
      have HR : Hid (ABr N I wr sb base len s1 M E) := hr
      clear hs hr hg
      cases hpl : s1.place k with
      | none =>
        have hv : (fun k => (s1.place k).map fun j : Nat => Value.int .i64 (j : Int)) k = none := by simp [hpl]
        have hstep : s2 = s1.new k (base + p) := by rw [hst.out, St.step, ← hk.out, hpl]
        obtain ⟨oa, oc, rfl⟩ : ∃ oa oc, ov = .slice oa s1.n oc := by
          rcases hsa.own.2 with ⟨q1, q2⟩ | ⟨g, cap, cur, q1, _⟩
          · exact ⟨none, 0, by rw [q1, q2]⟩
          · exact ⟨_, _, q1⟩
        obtain ⟨w1, hput, hm1, hg1⟩ := (MapIs.drew hsa.place).put (P := Try.prog) (kt := 9) (e := 3) (str_fine Try.underlying9) (t := 66) Try.underlying66 k (.int .i64 s1.n)
        have hm2 : MapIs strKey w1 PM (fun k' => ((s1.new k (base + p)).place k').map fun j : Nat => Value.int .i64 (j : Int)) (s1.n + 1) := by
          have := hm1 (fun k' => ((s1.new k (base + p)).place k').map fun j : Nat => Value.int .i64 (j : Int)) (by simp [St.new]) (fun k' hne => by simp [St.new, hne])
          simpa [hpl] using this
        have hneP : bx ≠ PM := fun e => hsa.place.notRow (row_isRow hbx) e.symm
        have hnSP : SB ≠ PM := fun e => hsa.place.notRow (row_isRow hsa.sec) e.symm
        have hbx1 : w1.rowIs bx 71 9 _ := rowIs_kept hbx.drew hg1 (by simpa using hneP)
        have hsec1 : w1.rowIs SB 65 6 _ := rowIs_kept hsa.sec.drew hg1 (by simpa using hnSP)
        have e2 : w1.cell? ⟨SB, 2, none⟩ = some (.slice oa s1.n oc) := hsec1.cell (i := 2) (by omega)
        have g7 : w1.cell? ⟨bx, 7, none⟩ = some (.string k) := by rw [hbx1.cell (by omega), hasg]; rfl
        have hg12 : wa.grownBy w1 (some PM) := ⟨hg1.os, hg1.tape, hg1.output, hg1.size, hg1.block⟩
        obtain ⟨a', c', w3, hrun, hsec3, hs3, hr3⟩ := AB_new hsa hra hpl hlt hg12 hm2 (w2 := (w1.alloc (.cells #[.string k, .slice (some ⟨sb, p * 9, none⟩) 1 1] 74)).drew) ((World.grownBy_alloc _ _ _).trans (grown_drew _)) 62 w1.heap.size 1
          (World.news_of_block (w := (w1.alloc (.cells #[.string k, .slice (some ⟨sb, p * 9, none⟩) 1 1] 74)).drew) (cs := #[.string k, .slice (some ⟨sb, p * 9, none⟩) 1 1]) (t := 74) (fr := (0, 0)) (heap_alloc_new w1 _)) (by have := hft.1; omega)
        rw [Int.toNat_natCast] at hrun
        have f2 : w3.cell? ⟨SB, 2, none⟩ = some (.slice oa s1.n oc) := hsec3.cell (i := 2) (by omega)
        have ff2 := hsec3.frozen 2
        have HN : Hid (AB w0 N I SB PM sb base len s2 (w3.setCell ⟨SB, 2, none⟩ (.slice a' (s1.n + 1) c'))) := by
          rw [hstep]
          exact ⟨_, _, _, _, _, hs3, hr3, HC.out⟩
        have hlb1 := World.block_lt_of_cell? w1 _ g7
        have hlS1 := World.block_lt_of_cell? w1 _ e2
        simp only [] at hlb1 hlS1
        have hn0 : (s1.n : Int) ≤ 1048576 := by have := hft.1; omega
        have hkey : (Instr.mapUpdate 66 (.map (some PM)) (.string k) (.int .i64 s1.n)).run Try.prog wa.drew = .ok () w1 := hput
        obtain ⟨bo, hbo⟩ : ∃ bo : Bool, (o == 1) = bo := ⟨_, rfl⟩
        clear hs3 hr3 hsec3 hm1 hm2 hg1 hg12 hbx1 hsec1 hsa hra hst hft hasg hpl hbx hput
        cases bo
        all_goals
          go_wp2_with (at_lookup; refine wpList_look_ok_none rfl rfl (str_fine Try.underlying9) Try.underlying66 hz9 k rfl rfl (hmapr.alloc _) hv ?_)
          rw [← hwa.out]
          rw [← hbe.out]
          go_region_held3 (fun w' => w'.cell? ⟨SB, 2, none⟩ = some (.slice oa s1.n oc) ∧ w'.cell? ⟨bx, 7, none⟩ = some (.string k)) (first | exact ⟨d2, b7⟩ | exact ⟨e2, g7⟩) (fail)
          go_wp2_with fail
          go_region_law (refine step_app_run rfl (.tmp 72) (.tmp 77) 62 rfl (by simp [Act.eval]) (by simp [Act.eval]) hrun ?_)
          all_goals
            go_wp2_with fail
            go_roundw
            case rel => exact ⟨p + 1, by omega, by go_num, by rw [hs2.out]; exact HN⟩
            case measure => simp [intOf]; omega
      | some j =>
        have hjn := ((hsa.ok k j).1 hpl).1
        have hv : (fun k => (s1.place k).map fun j : Nat => Value.int .i64 (j : Int)) k = some (.int .i64 j) := by simp [hpl]
        obtain ⟨ob, cap, rfl, hcap, hlo, hoc, hof⟩ := hsa.ovIs (by omega)
        have d3 := (hoc j hjn).2
        have hf3 := hof (j * 2 + 1)
        have hj0 : (0 : Int) ≤ (j : Int) := by omega
        have hj1 : (j : Int) < (s1.n : Int) := by omega
        clear hoc hof
        by_cases ho1 : o = 1
        · subst ho1
          have hstep : s2 = s1.app j (base + p) := by rw [hst.out, St.step, ← hk.out, hpl, ← ho.out]; rfl
          have hbig : wa.grownBy ((wa.alloc (.cells #[.int .u8 1, .int .u8 0, .bool false, .string ⟨#[]⟩, .int .i64 ln, .string ⟨#[]⟩, .string ⟨#[]⟩, .string k, .string ⟨#[]⟩] 71)).drew) none := (World.grownBy_alloc _ _ _).trans (grown_drew _)
          have hsA := hsa.fresh hbig
          have hrA := hra.fresh hbig
          obtain ⟨v', w2, hrun, hR, row, hgr, hrow, kb, hkb, hkb2⟩ := (hrA.runM j hjn).app 67 (base + p) wa.heap.size 1 (by rw [hasg]; exact World.news_of_block (w := (wa.alloc (.cells #[.int .u8 1, .int .u8 0, .bool false, .string ⟨#[]⟩, .int .i64 ln, .string ⟨#[]⟩, .string ⟨#[]⟩, .string k, .string ⟨#[]⟩] 71)).drew) (cs := #[.int .u8 1, .int .u8 0, .bool false, .string ⟨#[]⟩, .int .i64 ln, .string ⟨#[]⟩, .string ⟨#[]⟩, .string k, .string ⟨#[]⟩]) (t := 71) (fr := (0, 0)) (heap_alloc_new wa _)) (by have := (hft.2 j hjn).1; omega)
          obtain ⟨va, vn, vc, rfl⟩ : ∃ va vn vc, v' = .slice va vn vc := by obtain ⟨q1, q2, q3, q4, q5, _⟩ := hR; exact ⟨_, _, _, q5⟩
          have hsA2 : ABs w0 N w2 SB PM s1 _ em M Eo E := hsA.kept hgr (fun q e => by
            rcases hrow with rfl | ⟨q1, rfl⟩
            · cases e
            · exact ⟨(hrA.runM j hjn).isRow e, (hrA.alone j hjn q1).2.2.2 q e⟩)
          have HN : Hid (AB w0 N I SB PM sb base len s2 (w2.setCell ⟨ob, j * 2 + 1, none⟩ (.slice va vn vc))) := by
            have := AB_app hsA hrA rfl hjn hR hgr hrow hkb hkb2
            rw [hstep]
            exact ⟨_, _, _, _, _, this.1, this.2, HC.out⟩
          have e2 : w2.cell? ⟨SB, 2, none⟩ = some (.slice (some ⟨ob, 0, none⟩) s1.n cap) := hsA2.sec.cell (i := 2) (by omega)
          obtain ⟨ob2, cap2, q2, _, hlo2, hoc2, hof2⟩ := hsA2.ovIs (by omega)
          cases q2
          have e3 := (hoc2 j hjn).2
          have hf4 := hof2 (j * 2 + 1)
          have hneb : some bx ≠ row := by
            rcases hrow with rfl | ⟨q1, rfl⟩
            · simp
            · obtain ⟨kk, hk1, hk2⟩ := (HRM.out j hjn).lt
              rw [hk1, hbe.out]
              simp
              omega
          have hbx2 := rowIs_kept ((hbx.alloc (.cells #[.int .u8 1, .int .u8 0, .bool false, .string ⟨#[]⟩, .int .i64 ln, .string ⟨#[]⟩, .string ⟨#[]⟩, .string k, .string ⟨#[]⟩] 71)).drew) hgr hneb
          have g0 : w2.cell? ⟨bx, 0, none⟩ = some (.int .u8 1) := by rw [hbx2.cell (by omega), hasg]; rfl
          have g1 : w2.cell? ⟨bx, 1, none⟩ = some (.int .u8 0) := by rw [hbx2.cell (by omega), hasg]; rfl
          have g2 : w2.cell? ⟨bx, 2, none⟩ = some (.bool false) := by rw [hbx2.cell (by omega), hasg]; rfl
          have g3 : w2.cell? ⟨bx, 3, none⟩ = some (.string ⟨#[]⟩) := by rw [hbx2.cell (by omega), hasg]; rfl
          have g4 : w2.cell? ⟨bx, 4, none⟩ = some (.int .i64 ln) := by rw [hbx2.cell (by omega), hasg]; rfl
          have g5 : w2.cell? ⟨bx, 5, none⟩ = some (.string ⟨#[]⟩) := by rw [hbx2.cell (by omega), hasg]; rfl
          have g6 : w2.cell? ⟨bx, 6, none⟩ = some (.string ⟨#[]⟩) := by rw [hbx2.cell (by omega), hasg]; rfl
          have g7 : w2.cell? ⟨bx, 7, none⟩ = some (.string k) := by rw [hbx2.cell (by omega), hasg]; rfl
          have g8 : w2.cell? ⟨bx, 8, none⟩ = some (.string ⟨#[]⟩) := by rw [hbx2.cell (by omega), hasg]; rfl
          have hnS : SB ≠ ob := (row_isRow hsa.sec).ne (hsa.obRow rfl) (by decide)
          have hnB : bx ≠ ob := (row_isRow hbx).ne (hsa.obRow rfl) (by decide)
          clear hR hgr hrow hkb hkb2 hsA hrA hsa hra hsA2 hbig hoc2 hof2 hst hft hasg hpl hbx hneb hbx2
          go_wp2_with (at_lookup; refine wpList_look_ok_some rfl rfl (str_fine Try.underlying9) Try.underlying66 hz9 k rfl rfl (hmapr.alloc _) hv ?_)
          rw [← hwa.out]
          rw [← hbe.out]
          refine wp_region_held_drew (S := fun w' => w'.cell? ⟨SB, 2, none⟩ = some (.slice (some ⟨ob, 0, none⟩) s1.n cap) ∧ w'.cell? ⟨bx, 0, none⟩ = some (.int .u8 1) ∧ w'.cell? ⟨bx, 1, none⟩ = some (.int .u8 0) ∧ w'.cell? ⟨bx, 2, none⟩ = some (.bool false) ∧ w'.cell? ⟨bx, 3, none⟩ = some (.string ⟨#[]⟩) ∧ w'.cell? ⟨bx, 4, none⟩ = some (.int .i64 ln) ∧ w'.cell? ⟨bx, 5, none⟩ = some (.string ⟨#[]⟩) ∧ w'.cell? ⟨bx, 6, none⟩ = some (.string ⟨#[]⟩) ∧ w'.cell? ⟨bx, 7, none⟩ = some (.string k) ∧ w'.cell? ⟨bx, 8, none⟩ = some (.string ⟨#[]⟩)) (by kernel_rfl) ⟨d2, b0, b1, b2, b3, b4, b5, b6, b7, b8⟩ (fun hHeld => ?_)
          refine wpAnyH_take (i := 0) (v := ?_) rfl (by kernel_rfl) (by kernel_rfl) (by kernel_rfl) (fun _ _ _ h => h) (Or.inl ⟨by rfl, ?_⟩) hHeld ?_
          rotate_left 1
          · (intro w hSw; (try dsimp only at hSw); go_simp; try with_reducible rfl)
          try simp only [Act.put, List.setIfInBounds_toArray, List.set_cons_zero, List.set_cons_succ]
          refine wpAnyH_take (i := 1) (v := ?_) rfl (by kernel_rfl) (by kernel_rfl) (by kernel_rfl) (fun _ _ _ h => h) (Or.inl ⟨by rfl, ?_⟩) hHeld ?_
          rotate_left 1
          · (intro w hSw; (try dsimp only at hSw); go_simp; try with_reducible rfl)
          try simp only [Act.put, List.setIfInBounds_toArray, List.set_cons_zero, List.set_cons_succ]
          refine wpAnyH_take (i := 2) (v := ?_) rfl (by kernel_rfl) (by kernel_rfl) (by kernel_rfl) (fun _ _ _ h => h) (Or.inl ⟨by rfl, ?_⟩) hHeld ?_
          rotate_left 1
          · (intro w hSw; (try dsimp only at hSw); go_simp; try with_reducible rfl)
          try simp only [Act.put, List.setIfInBounds_toArray, List.set_cons_zero, List.set_cons_succ]
          refine wpAnyH_take (i := 3) (v := ?_) rfl (by kernel_rfl) (by kernel_rfl) (by kernel_rfl) (fun _ _ _ h => h) (Or.inl ⟨by rfl, ?_⟩) hHeld ?_
          rotate_left 1
          · (intro w hSw; (try dsimp only at hSw); go_simp; try with_reducible rfl)
          try simp only [Act.put, List.setIfInBounds_toArray, List.set_cons_zero, List.set_cons_succ]
          refine wpAnyH_take (i := 4) (v := ?_) rfl (by kernel_rfl) (by kernel_rfl) (by kernel_rfl) (fun _ _ _ h => h) (Or.inl ⟨by rfl, ?_⟩) hHeld ?_
          rotate_left 1
          · (intro w hSw; (try dsimp only at hSw); go_simp; try with_reducible rfl)
          try simp only [Act.put, List.setIfInBounds_toArray, List.set_cons_zero, List.set_cons_succ]
          refine wpAnyH_take (i := 5) (v := ?_) rfl (by kernel_rfl) (by kernel_rfl) (by kernel_rfl) (fun _ _ _ h => h) (Or.inl ⟨by rfl, ?_⟩) hHeld ?_
          rotate_left 1
          · (intro w hSw; (try dsimp only at hSw); go_simp; try with_reducible rfl)
          try simp only [Act.put, List.setIfInBounds_toArray, List.set_cons_zero, List.set_cons_succ]
          refine wpAnyH_take (i := 6) (v := ?_) rfl (by kernel_rfl) (by kernel_rfl) (by kernel_rfl) (fun _ _ _ h => h) (Or.inl ⟨by rfl, ?_⟩) hHeld ?_
          rotate_left 1
          · (intro w hSw; (try dsimp only at hSw); go_simp; try with_reducible rfl)
          try simp only [Act.put, List.setIfInBounds_toArray, List.set_cons_zero, List.set_cons_succ]
          refine wpAnyH_take (i := 7) (v := ?_) rfl (by kernel_rfl) (by kernel_rfl) (by kernel_rfl) (fun _ _ _ h => h) (Or.inl ⟨by rfl, ?_⟩) hHeld ?_
          rotate_left 1
          · (intro w hSw; (try dsimp only at hSw); go_simp; try with_reducible rfl)
          try simp only [Act.put, List.setIfInBounds_toArray, List.set_cons_zero, List.set_cons_succ]
          refine wpAnyH_take (i := 8) (v := ?_) rfl (by kernel_rfl) (by kernel_rfl) (by kernel_rfl) (fun _ _ _ h => h) (Or.inl ⟨by rfl, ?_⟩) hHeld ?_
          rotate_left 1
          · (intro w hSw; (try dsimp only at hSw); go_simp; try with_reducible rfl)
          try simp only [Act.put, List.setIfInBounds_toArray, List.set_cons_zero, List.set_cons_succ]
          refine wpAnyH_take (i := 9) (v := ?_) rfl (by kernel_rfl) (by kernel_rfl) (by kernel_rfl) (fun _ _ _ h => h) (Or.inl ⟨by rfl, ?_⟩) hHeld ?_
          rotate_left 1
          · (intro w hSw; (try dsimp only at hSw); go_simp; try with_reducible rfl)
          try simp only [Act.put, List.setIfInBounds_toArray, List.set_cons_zero, List.set_cons_succ]
          refine wpAnyH_take (i := 10) (v := ?_) rfl (by kernel_rfl) (by kernel_rfl) (by kernel_rfl) (fun _ _ _ h => h) (Or.inl ⟨by rfl, ?_⟩) hHeld ?_
          rotate_left 1
          · (intro w hSw; (try dsimp only at hSw); go_simp; try with_reducible rfl)
          try simp only [Act.put, List.setIfInBounds_toArray, List.set_cons_zero, List.set_cons_succ]
          refine wpAnyH_take (i := 11) (v := ?_) rfl (by kernel_rfl) (by kernel_rfl) (by kernel_rfl) (fun _ _ _ h => h) (Or.inl ⟨by rfl, ?_⟩) hHeld ?_
          rotate_left 1
          · (intro w hSw; (try dsimp only at hSw); go_simp; try with_reducible rfl)
          try simp only [Act.put, List.setIfInBounds_toArray, List.set_cons_zero, List.set_cons_succ]
          refine wpAnyH_take (i := 13) (v := ?_) rfl (by kernel_rfl) (by kernel_rfl) (by kernel_rfl) (fun _ _ _ h => h) (Or.inl ⟨by rfl, ?_⟩) hHeld ?_
          rotate_left 1
          · (intro w hSw; (try dsimp only at hSw); go_simp; try with_reducible rfl)
          try simp only [Act.put, List.setIfInBounds_toArray, List.set_cons_zero, List.set_cons_succ]
          refine wpAnyH_ready (rs := [12, 14]) (by kernel_rfl) (by simp) ?_
          refine AllReadyH.cons (i := 12) rfl (fun K hK => ?_) (AllReadyH.cons (i := 14) rfl (fun K hK => ?_) AllReadyH.nil)
          · go_simp
            refine hK.out _ _ ⟨d2, b0, b1, b2, b3, b4, b5, b6, b7, b8⟩ (fun hHeld => ?_)
            clear hK
            try simp only [Act.put, List.setIfInBounds_toArray, List.set_cons_zero, List.set_cons_succ]
            refine wpAnyH_ready (rs := [14]) (by kernel_rfl) (by simp) ?_
            refine AllReadyH.cons (i := 14) rfl (fun K hK => ?_) AllReadyH.nil
            go_simp
            refine hK.out _ _ ⟨cell_al d2 _, cell_al b0 _, cell_al b1 _, cell_al b2 _, cell_al b3 _, cell_al b4 _, cell_al b5 _, cell_al b6 _, cell_al b7 _, cell_al b8 _⟩ (fun hHeld => ?_)
            clear hK
            try simp only [Act.put, List.setIfInBounds_toArray, List.set_cons_zero, List.set_cons_succ]
            refine wpAnyH_ready (rs := [15]) (by kernel_rfl) (by simp) ?_
            refine AllReadyH.cons (i := 15) rfl (fun K hK => ?_) AllReadyH.nil
            refine step_app_run rfl (.tmp 45) (.tmp 47) 67 (by rfl) (by simp [Act.eval]) (by simp [Act.eval]) hrun ?_
            refine hK.out _ _ ⟨e2, g0, g1, g2, g3, g4, g5, g6, g7, g8⟩ (fun hHeld => ?_)
            clear hK
            try simp only [Act.put, List.setIfInBounds_toArray, List.set_cons_zero, List.set_cons_succ]
            refine wpAnyH_take (i := 16) (v := ?_) rfl (by kernel_rfl) (by kernel_rfl) (by kernel_rfl) (fun _ _ _ h => h) (Or.inl ⟨by rfl, ?_⟩) hHeld ?_
            rotate_left 1
            · (intro w hSw; (try dsimp only at hSw); go_simp; try with_reducible rfl)
            try simp only [Act.put, List.setIfInBounds_toArray, List.set_cons_zero, List.set_cons_succ]
            refine wpAnyH_take (i := 17) (v := ?_) rfl (by kernel_rfl) (by kernel_rfl) (by kernel_rfl) (fun _ _ _ h => h) (Or.inl ⟨by rfl, ?_⟩) hHeld ?_
            rotate_left 1
            · (intro w hSw; (try dsimp only at hSw); go_simp; try with_reducible rfl)
            try simp only [Act.put, List.setIfInBounds_toArray, List.set_cons_zero, List.set_cons_succ]
            refine wpAnyH_ready (rs := [18]) (by kernel_rfl) (by simp) ?_
            refine AllReadyH.cons (i := 18) rfl (fun K hK => ?_) AllReadyH.nil
            go_simp
            refine hK.out _ _ ⟨cell_so e2 hnS, cell_so g0 hnB, cell_so g1 hnB, cell_so g2 hnB, cell_so g3 hnB, cell_so g4 hnB, cell_so g5 hnB, cell_so g6 hnB, cell_so g7 hnB, cell_so g8 hnB⟩ (fun hHeld => ?_)
            clear hK
            refine wpAnyH_done (by kernel_rfl) ?_ _
            clear hHeld
            go_wp2_with fail
            go_roundw
            case rel => exact ⟨p + 1, by omega, by go_num, by rw [hs2.out]; exact HN⟩
            case measure => simp [intOf]; omega
          · go_simp
            refine hK.out _ _ ⟨cell_al d2 _, cell_al b0 _, cell_al b1 _, cell_al b2 _, cell_al b3 _, cell_al b4 _, cell_al b5 _, cell_al b6 _, cell_al b7 _, cell_al b8 _⟩ (fun hHeld => ?_)
            clear hK
            try simp only [Act.put, List.setIfInBounds_toArray, List.set_cons_zero, List.set_cons_succ]
            refine wpAnyH_ready (rs := [12]) (by kernel_rfl) (by simp) ?_
            refine AllReadyH.cons (i := 12) rfl (fun K hK => ?_) AllReadyH.nil
            go_simp
            refine hK.out _ _ ⟨cell_al d2 _, cell_al b0 _, cell_al b1 _, cell_al b2 _, cell_al b3 _, cell_al b4 _, cell_al b5 _, cell_al b6 _, cell_al b7 _, cell_al b8 _⟩ (fun hHeld => ?_)
            clear hK
            try simp only [Act.put, List.setIfInBounds_toArray, List.set_cons_zero, List.set_cons_succ]
            refine wpAnyH_ready (rs := [15]) (by kernel_rfl) (by simp) ?_
            refine AllReadyH.cons (i := 15) rfl (fun K hK => ?_) AllReadyH.nil
            refine step_app_run rfl (.tmp 45) (.tmp 47) 67 (by rfl) (by simp [Act.eval]) (by simp [Act.eval]) hrun ?_
            refine hK.out _ _ ⟨e2, g0, g1, g2, g3, g4, g5, g6, g7, g8⟩ (fun hHeld => ?_)
            clear hK
            try simp only [Act.put, List.setIfInBounds_toArray, List.set_cons_zero, List.set_cons_succ]
            refine wpAnyH_take (i := 16) (v := ?_) rfl (by kernel_rfl) (by kernel_rfl) (by kernel_rfl) (fun _ _ _ h => h) (Or.inl ⟨by rfl, ?_⟩) hHeld ?_
            rotate_left 1
            · (intro w hSw; (try dsimp only at hSw); go_simp; try with_reducible rfl)
            try simp only [Act.put, List.setIfInBounds_toArray, List.set_cons_zero, List.set_cons_succ]
            refine wpAnyH_take (i := 17) (v := ?_) rfl (by kernel_rfl) (by kernel_rfl) (by kernel_rfl) (fun _ _ _ h => h) (Or.inl ⟨by rfl, ?_⟩) hHeld ?_
            rotate_left 1
            · (intro w hSw; (try dsimp only at hSw); go_simp; try with_reducible rfl)
            try simp only [Act.put, List.setIfInBounds_toArray, List.set_cons_zero, List.set_cons_succ]
            refine wpAnyH_ready (rs := [18]) (by kernel_rfl) (by simp) ?_
            refine AllReadyH.cons (i := 18) rfl (fun K hK => ?_) AllReadyH.nil
            go_simp
            refine hK.out _ _ ⟨cell_so e2 hnS, cell_so g0 hnB, cell_so g1 hnB, cell_so g2 hnB, cell_so g3 hnB, cell_so g4 hnB, cell_so g5 hnB, cell_so g6 hnB, cell_so g7 hnB, cell_so g8 hnB⟩ (fun hHeld => ?_)
            clear hK
            refine wpAnyH_done (by kernel_rfl) ?_ _
            clear hHeld
            go_wp2_with fail
            go_roundw
            case rel => exact ⟨p + 1, by omega, by go_num, by rw [hs2.out]; exact HN⟩
            case measure => simp [intOf]; omega
        · have hbo : (o == 1) = false := by simpa using ho1
          cases rep with
          | false =>
            have hstep : s2 = s1.set j (base + p) := by rw [hst.out, St.step, ← hk.out, hpl, ← ho.out]; simp [ho1]
            obtain ⟨hs3, hr3⟩ := AB_set HS.out HR.out rfl hjn hlt
            have HN : Hid (AB w0 N I SB PM sb base len s2 ((wr.setCell ⟨ob, j * 2 + 1, none⟩ (.slice (some ⟨sb, p * 9, none⟩) 1 1)).alloc (.cells #[.int .u8 o, .int .u8 0, .bool false, .string ⟨#[]⟩, .int .i64 ln, .string ⟨#[]⟩, .string ⟨#[]⟩, .string k, .string ⟨#[]⟩] 71))) := by
              rw [hstep]
              exact ⟨_, _, _, _, _, hs3.fresh (World.grownBy_alloc _ _ _), hr3.fresh (World.grownBy_alloc _ _ _), HC.out⟩
            obtain ⟨ob2, cap2, q2, _, hlo2, hoc2, hof2⟩ := HS.out.ovIs (by omega)
            cases q2
            have e2 : wr.cell? ⟨SB, 2, none⟩ = some (.slice (some ⟨ob, 0, none⟩) s1.n cap) := HS.out.sec.cell (i := 2) (by omega)
            have hlS2 := HS.out.sec.lt
            have e3 := (hoc2 j hjn).2
            have hf4 := hof2 (j * 2 + 1)
            clear hoc2 hof2 hs3 hr3 hsa hra hst hft hasg hpl hbx
            go_wp2_with (at_lookup; refine wpList_look_ok_some rfl rfl (str_fine Try.underlying9) Try.underlying66 hz9 k rfl rfl (hmapr.alloc _) hv ?_)
            go_roundw
            case rel => exact ⟨p + 1, by omega, by go_num, by rw [hs2.out]; exact HN⟩
            case measure => simp [intOf]; omega
          | true =>
            have hstep : s2 = (s1.bury j).set j (base + p) := by rw [hst.out, St.step, ← hk.out, hpl, ← ho.out]; simp [ho1]
            have hmn := fun w => run_eql_map_nil (P := Try.prog) w 63 9 76 em Try.underlying63
            have e2r : wr.cell? ⟨SB, 2, none⟩ = some (.slice (some ⟨ob, 0, none⟩) s1.n cap) := HS.out.sec.cell (i := 2) (by omega)
            have e3r : wr.cell? ⟨SB, 3, none⟩ = some (.map em) := HS.out.sec.cell (i := 3) (by omega)
            have hf3r := HS.out.sec.frozen 3
            have hlS2 := HS.out.sec.lt
            have hmm := @run_makeMap Try.prog
            have HC0 : Hid (s1.early j ≠ [] → 0 < s1.cnt) := fun q => HC.out (by cases em with | none => exact absurd ((hsa.noE rfl).2 j hjn) q | some m => rfl)
            cases em with
            | none =>
              obtain ⟨mm, hmmE⟩ : ∃ mm, Hid (mm = wr.heap.size + 1) := ⟨_, rfl⟩
              obtain ⟨wb, hwb⟩ : ∃ wb, Hid (wb = ((wr.setCell ⟨SB, 3, none⟩ (.map (some (wr.heap.size + 1)))).alloc (.cells #[.int .u8 o, .int .u8 0, .bool false, .string ⟨#[]⟩, .int .i64 ln, .string ⟨#[]⟩, .string ⟨#[]⟩, .string k, .string ⟨#[]⟩] 71)).alloc (.map #[] 0)) := ⟨_, rfl⟩
              have hwb2 : wb = (wa.setCell ⟨SB, 3, none⟩ (.map (some wa.heap.size))).alloc (.map #[] 0) := by
                rw [hwb.out, hwa.out, World.setCell_alloc_past _ _ _ _ hlS2, World.size_alloc]
              have hwas : wa.heap.size = mm := by rw [hmmE.out, hwa.out, World.size_alloc]
              obtain ⟨hsb, hrb⟩ := AB_mk hsa hra
              have hbb : wb.rowIs bx 71 9 (fun f => (asg I (base + p)).getD f undef) := by
                rw [hwb2]
                exact (hbx.setOther (by exact (row_isRow hbx).ne (row_isRow hsa.sec) (by decide)) _).alloc _
              rw [← hwb2] at hsb hrb
              rw [hwas] at hsb
              clear hsa hra hbx hwb2 hwas
              obtain ⟨ob1, cap1, q1, _, hlo1, hoc1, hof1⟩ := hsb.ovIs (by omega)
              cases q1
              have x2 : wb.cell? ⟨SB, 2, none⟩ = some (.slice (some ⟨ob, 0, none⟩) s1.n cap) := hsb.sec.cell (i := 2) (by omega)
              have x3 : wb.cell? ⟨SB, 3, none⟩ = some (.map (some mm)) := hsb.sec.cell (i := 3) (by omega)
              have x7 : wb.cell? ⟨bx, 7, none⟩ = some (.string k) := by rw [hbb.cell (by omega), hasg]; rfl
              have y1 := (hoc1 j hjn).2
              obtain ⟨ma, mn, mc, hM⟩ : ∃ ma mn mc, Hid (M j = .slice ma mn mc) := by obtain ⟨q1, q2, q3, q4, q5, _⟩ := hrb.runM j hjn; exact ⟨_, _, _, q5⟩
              rw [hM.out] at y1
              obtain ⟨v', w2, w3, row, hrun, hgr, hrow, hput, hs3, hr3⟩ := AB_bury hsb hrb hpl (w1 := (wb.alloc (.cells #[.slice ma mn mc] 67)).drew) ((World.grownBy_alloc _ _ _).trans (grown_drew _)) 76 wb.heap.size 1
                (by rw [hM.out]; exact World.news_of_block (w := (wb.alloc (.cells #[.slice ma mn mc] 67)).drew) (cs := #[.slice ma mn mc]) (t := 67) (fr := (0, 0)) (heap_alloc_new wb _)) (by have := (hft.2 j hjn).2; omega)
              have hl1 : (Instr.lookup 63 (.map (some mm)) (.string k) false).run Try.prog wb.drew = .ok (earlyOf s1 Eo j) wb.drew := by
                have := (MapIs.drew (hsb.map mm rfl)).look (P := Try.prog) (kt := 9) (e := 76) (str_fine Try.underlying9) (t := 63) Try.underlying63 (Try.zero76 _) k false
                refine this.trans ?_
                simp [hpl, earlyOf]
                by_cases e : s1.early j = [] <;> simp [e]
              have hl2 : (Instr.lookup 63 (.map (some mm)) (.string k) false).run Try.prog ((wb.alloc (.cells #[.slice ma mn mc] 67)).drew) = .ok (earlyOf s1 Eo j) ((wb.alloc (.cells #[.slice ma mn mc] 67)).drew) := by
                have := (MapIs.drew ((hsb.map mm rfl).alloc (.cells #[.slice ma mn mc] 67))).look (P := Try.prog) (kt := 9) (e := 76) (str_fine Try.underlying9) (t := 63) Try.underlying63 (Try.zero76 _) k false
                refine this.trans ?_
                simp [hpl, earlyOf]
                by_cases e : s1.early j = [] <;> simp [e]
              have hput' : (Instr.mapUpdate 63 (.map (some mm)) (.string k) v').run Try.prog w2 = .ok () w3 := hput
              obtain ⟨hs4, hr4⟩ := AB_buried hs3 hr3 rfl hjn hlt
              have HN : Hid (AB w0 N I SB PM sb base len s2 (w3.setCell ⟨ob, j * 2 + 1, none⟩ (.slice (some ⟨sb, p * 9, none⟩) 1 1))) := by
                rw [hstep]
                exact ⟨_, _, _, _, _, hs4, hr4, fun _ => by have := HC0.out; show 0 < s1.cnt + (if s1.early j = [] then 1 else 0); by_cases e : s1.early j = [] <;> simp [e] <;> exact this e⟩
              have ne67 : ∀ {b t}, IsRow wb b t → t ≠ 67 → some b ≠ row := fun hb ht e => (hb.ne (hrow _ e.symm) ht) rfl
              have hrowS : ((wb.alloc (.cells #[.slice ma mn mc] 67)).drew).rowIs SB 65 6 _ := (hsb.sec.alloc _).drew
              have hsec2 := rowIs_kept hrowS hgr (ne67 (row_isRow hsb.sec) (by decide))
              have hbx2 := rowIs_kept ((hbb.alloc (.cells #[.slice ma mn mc] 67)).drew) hgr (ne67 (row_isRow hbb) (by decide))
              have hob2 := World.grownBy.cell hgr (a := ⟨ob, j * 2 + 1, none⟩) (v := .slice ma mn mc) (cell_al y1 _) (ne67 (hsb.obRow rfl) (by decide))
              have z2 : w2.cell? ⟨SB, 2, none⟩ = some (.slice (some ⟨ob, 0, none⟩) s1.n cap) := hsec2.cell (i := 2) (by omega)
              have z3 : w2.cell? ⟨SB, 3, none⟩ = some (.map (some mm)) := hsec2.cell (i := 3) (by omega)
              have z7 : w2.cell? ⟨bx, 7, none⟩ = some (.string k) := by rw [hbx2.cell (by omega), hasg]; rfl
              have hm2 : IsRow w2 bx 71 := row_isRow hbx2
              obtain ⟨ob3, cap3, q3, _, hlo3, hoc3, hof3⟩ := hs3.ovIs (by show 0 < s1.n; omega)
              cases q3
              have u2 : w3.cell? ⟨SB, 2, none⟩ = some (.slice (some ⟨ob, 0, none⟩) s1.n cap) := hs3.sec.cell (i := 2) (by omega)
              have u3 : w3.cell? ⟨SB, 3, none⟩ = some (.map (some mm)) := hs3.sec.cell (i := 3) (by omega)
              have u4 := (hoc3 j hjn).2
              rw [hM.out] at u4
              have u5 := hof3 (j * 2 + 1)
              have u7 : w3.cell? ⟨bx, 7, none⟩ = some (.string k) := by
                obtain ⟨w3', p1, _, p2⟩ := ((MapIs.drew ((hsb.map mm rfl).alloc (.cells #[.slice ma mn mc] 67))).kept hgr (fun e => ((hsb.map mm rfl).notRow (hrow _ e.symm)) rfl)).put (P := Try.prog) (kt := 9) (e := 76) (str_fine Try.underlying9) (t := 63) Try.underlying63 k v'
                rw [p1] at hput
                cases hput
                have hne : mm ≠ bx := ((MapIs.drew ((hsb.map mm rfl).alloc (.cells #[.slice ma mn mc] 67))).kept hgr (fun e => ((hsb.map mm rfl).notRow (hrow _ e.symm)) rfl)).notRow hm2
                exact World.grownBy.cell p2 z7 (by simpa using hne.symm)
              have hlb5 := World.block_lt_of_cell? wb _ x7
              have hlS5 := World.block_lt_of_cell? wb _ x2
              simp only [] at hlb5 hlS5
              obtain ⟨eo, heo⟩ : ∃ eo, Hid (eo = earlyOf s1 Eo j) := ⟨_, rfl⟩
              rw [← heo.out] at hl1 hl2 hrun
              clear hs4 hr4 hs3 hr3 ne67 hrowS hsec2 hbx2 hoc1 hof1 hoc3 hof3 hsb hrb hst hft hasg hpl hbb hput hm2 hgr hrow b0 b1 b2 b3 b4 b5 b6 b7 b8 d2 d3
              go_wp2_with (at_lookup; refine wpList_look_ok_some rfl rfl (str_fine Try.underlying9) Try.underlying66 hz9 k rfl rfl (hmapr.alloc _) hv ?_)
              rw [← hwb.out]
              rw [← hbe.out]
              go_region_held3 (fun w' => w'.cell? ⟨SB, 2, none⟩ = some (.slice (some ⟨ob, 0, none⟩) s1.n cap) ∧ w'.cell? ⟨SB, 3, none⟩ = some (.map (some mm)) ∧ w'.cell? ⟨ob, j * 2 + 1, none⟩ = some (.slice ma mn mc) ∧ w'.cell? ⟨bx, 7, none⟩ = some (.string k))
                (first | exact ⟨x2, x3, y1, x7⟩ | exact ⟨cell_al x2 _, cell_al x3 _, cell_al y1 _, cell_al x7 _⟩ | exact ⟨z2, z3, hob2, z7⟩ | exact ⟨u2, u3, u4, u7⟩)
                ((refine step_app_run rfl (.tmp 103) (.tmp 112) 76 (by rfl) (by simp [Act.eval]) (by simp [Act.eval]) hrun ?_))
              all_goals
                go_wp2_with fail
                go_roundw
                case rel => exact ⟨p + 1, by omega, by go_num, by rw [hs2.out]; exact HN⟩
                case measure => simp [intOf]; omega
            | some m =>
              obtain ⟨wb, hwb, hwe⟩ : ∃ wb, Hid (wb = wr.alloc (.cells #[.int .u8 o, .int .u8 0, .bool false, .string ⟨#[]⟩, .int .i64 ln, .string ⟨#[]⟩, .string ⟨#[]⟩, .string k, .string ⟨#[]⟩] 71)) ∧ wb = wa := ⟨wa, hwa, rfl⟩
              subst hwe
              have hsb := hsa
              have hrb := hra
              have hbb := hbx
              clear hsa hra hbx
              obtain ⟨ob1, cap1, q1, _, hlo1, hoc1, hof1⟩ := hsb.ovIs (by omega)
              cases q1
              have x2 : wb.cell? ⟨SB, 2, none⟩ = some (.slice (some ⟨ob, 0, none⟩) s1.n cap) := hsb.sec.cell (i := 2) (by omega)
              have x3 : wb.cell? ⟨SB, 3, none⟩ = some (.map (some m)) := hsb.sec.cell (i := 3) (by omega)
              have x7 : wb.cell? ⟨bx, 7, none⟩ = some (.string k) := by rw [hbb.cell (by omega), hasg]; rfl
              have y1 := (hoc1 j hjn).2
              obtain ⟨ma, mn, mc, hM⟩ : ∃ ma mn mc, Hid (M j = .slice ma mn mc) := by obtain ⟨q1, q2, q3, q4, q5, _⟩ := hrb.runM j hjn; exact ⟨_, _, _, q5⟩
              rw [hM.out] at y1
              obtain ⟨v', w2, w3, row, hrun, hgr, hrow, hput, hs3, hr3⟩ := AB_bury hsb hrb hpl (w1 := (wb.alloc (.cells #[.slice ma mn mc] 67)).drew) ((World.grownBy_alloc _ _ _).trans (grown_drew _)) 76 wb.heap.size 1
                (by rw [hM.out]; exact World.news_of_block (w := (wb.alloc (.cells #[.slice ma mn mc] 67)).drew) (cs := #[.slice ma mn mc]) (t := 67) (fr := (0, 0)) (heap_alloc_new wb _)) (by have := (hft.2 j hjn).2; omega)
              have hl1 : (Instr.lookup 63 (.map (some m)) (.string k) false).run Try.prog wb.drew = .ok (earlyOf s1 Eo j) wb.drew := by
                have := (MapIs.drew (hsb.map m rfl)).look (P := Try.prog) (kt := 9) (e := 76) (str_fine Try.underlying9) (t := 63) Try.underlying63 (Try.zero76 _) k false
                refine this.trans ?_
                simp [hpl, earlyOf]
                by_cases e : s1.early j = [] <;> simp [e]
              have hl2 : (Instr.lookup 63 (.map (some m)) (.string k) false).run Try.prog ((wb.alloc (.cells #[.slice ma mn mc] 67)).drew) = .ok (earlyOf s1 Eo j) ((wb.alloc (.cells #[.slice ma mn mc] 67)).drew) := by
                have := (MapIs.drew ((hsb.map m rfl).alloc (.cells #[.slice ma mn mc] 67))).look (P := Try.prog) (kt := 9) (e := 76) (str_fine Try.underlying9) (t := 63) Try.underlying63 (Try.zero76 _) k false
                refine this.trans ?_
                simp [hpl, earlyOf]
                by_cases e : s1.early j = [] <;> simp [e]
              have hput' : (Instr.mapUpdate 63 (.map (some m)) (.string k) v').run Try.prog w2 = .ok () w3 := hput
              obtain ⟨hs4, hr4⟩ := AB_buried hs3 hr3 rfl hjn hlt
              have HN : Hid (AB w0 N I SB PM sb base len s2 (w3.setCell ⟨ob, j * 2 + 1, none⟩ (.slice (some ⟨sb, p * 9, none⟩) 1 1))) := by
                rw [hstep]
                exact ⟨_, _, _, _, _, hs4, hr4, fun _ => by have := HC0.out; show 0 < s1.cnt + (if s1.early j = [] then 1 else 0); by_cases e : s1.early j = [] <;> simp [e] <;> exact this e⟩
              have ne67 : ∀ {b t}, IsRow wb b t → t ≠ 67 → some b ≠ row := fun hb ht e => (hb.ne (hrow _ e.symm) ht) rfl
              have hrowS : ((wb.alloc (.cells #[.slice ma mn mc] 67)).drew).rowIs SB 65 6 _ := (hsb.sec.alloc _).drew
              have hsec2 := rowIs_kept hrowS hgr (ne67 (row_isRow hsb.sec) (by decide))
              have hbx2 := rowIs_kept ((hbb.alloc (.cells #[.slice ma mn mc] 67)).drew) hgr (ne67 (row_isRow hbb) (by decide))
              have hob2 := World.grownBy.cell hgr (a := ⟨ob, j * 2 + 1, none⟩) (v := .slice ma mn mc) (cell_al y1 _) (ne67 (hsb.obRow rfl) (by decide))
              have z2 : w2.cell? ⟨SB, 2, none⟩ = some (.slice (some ⟨ob, 0, none⟩) s1.n cap) := hsec2.cell (i := 2) (by omega)
              have z3 : w2.cell? ⟨SB, 3, none⟩ = some (.map (some m)) := hsec2.cell (i := 3) (by omega)
              have z7 : w2.cell? ⟨bx, 7, none⟩ = some (.string k) := by rw [hbx2.cell (by omega), hasg]; rfl
              have hm2 : IsRow w2 bx 71 := row_isRow hbx2
              obtain ⟨ob3, cap3, q3, _, hlo3, hoc3, hof3⟩ := hs3.ovIs (by show 0 < s1.n; omega)
              cases q3
              have u2 : w3.cell? ⟨SB, 2, none⟩ = some (.slice (some ⟨ob, 0, none⟩) s1.n cap) := hs3.sec.cell (i := 2) (by omega)
              have u3 : w3.cell? ⟨SB, 3, none⟩ = some (.map (some m)) := hs3.sec.cell (i := 3) (by omega)
              have u4 := (hoc3 j hjn).2
              rw [hM.out] at u4
              have u5 := hof3 (j * 2 + 1)
              have u7 : w3.cell? ⟨bx, 7, none⟩ = some (.string k) := by
                obtain ⟨w3', p1, _, p2⟩ := ((MapIs.drew ((hsb.map m rfl).alloc (.cells #[.slice ma mn mc] 67))).kept hgr (fun e => ((hsb.map m rfl).notRow (hrow _ e.symm)) rfl)).put (P := Try.prog) (kt := 9) (e := 76) (str_fine Try.underlying9) (t := 63) Try.underlying63 k v'
                rw [p1] at hput
                cases hput
                have hne : m ≠ bx := ((MapIs.drew ((hsb.map m rfl).alloc (.cells #[.slice ma mn mc] 67))).kept hgr (fun e => ((hsb.map m rfl).notRow (hrow _ e.symm)) rfl)).notRow hm2
                exact World.grownBy.cell p2 z7 (by simpa using hne.symm)
              have hlb5 := World.block_lt_of_cell? wb _ x7
              have hlS5 := World.block_lt_of_cell? wb _ x2
              simp only [] at hlb5 hlS5
              obtain ⟨eo, heo⟩ : ∃ eo, Hid (eo = earlyOf s1 Eo j) := ⟨_, rfl⟩
              rw [← heo.out] at hl1 hl2 hrun
              clear hs4 hr4 hs3 hr3 ne67 hrowS hsec2 hbx2 hoc1 hof1 hoc3 hof3 hsb hrb hst hft hasg hpl hbb hput hm2 hgr hrow b0 b1 b2 b3 b4 b5 b6 b7 b8 d2 d3
              go_wp2_with (at_lookup; refine wpList_look_ok_some rfl rfl (str_fine Try.underlying9) Try.underlying66 hz9 k rfl rfl (hmapr.alloc _) hv ?_)
              rw [← hwb.out]
              rw [← hbe.out]
              go_region_held3 (fun w' => w'.cell? ⟨SB, 2, none⟩ = some (.slice (some ⟨ob, 0, none⟩) s1.n cap) ∧ w'.cell? ⟨SB, 3, none⟩ = some (.map (some m)) ∧ w'.cell? ⟨ob, j * 2 + 1, none⟩ = some (.slice ma mn mc) ∧ w'.cell? ⟨bx, 7, none⟩ = some (.string k))
                (first | exact ⟨x2, x3, y1, x7⟩ | exact ⟨cell_al x2 _, cell_al x3 _, cell_al y1 _, cell_al x7 _⟩ | exact ⟨z2, z3, hob2, z7⟩ | exact ⟨u2, u3, u4, u7⟩)
                ((refine step_app_run rfl (.tmp 103) (.tmp 112) 76 (by rfl) (by simp [Act.eval]) (by simp [Act.eval]) hrun ?_))
              all_goals
                go_wp2_with fail
                go_roundw
                case rel => exact ⟨p + 1, by omega, by go_num, by rw [hs2.out]; exact HN⟩
                case measure => simp [intOf]; omega
    · obtain rfl : len = p := by omega
      go_wp2_with fail
      go_end0
      exact ⟨rfl, hg.out⟩
end Go.Proofs.Qxb6600323a
