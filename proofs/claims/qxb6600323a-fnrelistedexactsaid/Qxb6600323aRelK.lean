import Derived.Test.Qxb6600323aRelJ
namespace Go.Proofs.Qxb6600323a
open Go.RowKit
set_option linter.unusedVariables false

/-- What the end of FnRelistedExact knows. -/
structure ExEnd (w6 : World) (hb fh : Bool) (a1 a2 a3 : Option Addr) (nL c1 nS c2 nW c3 r : Nat) (zL zW : Nat → Int) (aI : Nat → Option Addr) (nI cI : Nat → Nat) (zI : Nat → Nat → Int) (out : List Int) : Prop where
  res : Res ⟨hb, a1.isNone, nL, zL, nS, nI, zI⟩ (orZero fh nW) zW out
  row : w6.rowIs r 3 out.length (fun i => .int .i64 (out.getD i 0))
  l : RowInts w6 a1 nL c1 zL
  s : RowInts2 w6 a2 nS c2 aI nI cI zI
  v : RowInts w6 a3 nW c3 zW
  bL : nL ≤ 131072
  bW : nW ≤ 131072
  bS : nS ≤ 65536
  bI : ∀ i, i < nS → nI i ≤ 131072
  tot : (flat nI zI nS).length ≤ 131072

set_option maxRecDepth 100000 in
set_option maxHeartbeats 2000000 in
theorem ex_walk (hb fh : Bool) (aL aS aW : Option Addr) (nL cL nS cS nW cW : Nat) (zL zW : Nat → Int) (aI : Nat → Option Addr) (nI cI : Nat → Nat) (zI : Nat → Nat → Int) (w : World)
    (hnL : nL ≤ maxLen) (hnS : nS ≤ maxLen) (hnW : nW ≤ maxLen) (hnI : ∀ i, i < nS → nI i ≤ maxLen) (iL : IntsIs w aL nL cL zL) (iS : Ints2Is w aS nS cS aI nI cI zI) (iW : IntsIs w aW nW cW zW) :
    Calls Try.prog 6 #[.bool hb, .slice aL nL cL, .slice aS nS cS, .bool fh, .slice aW nW cW] w fun e w' => e = .returned (.bool true) ∧ Below w.heap.size w w' := by
  have HB := (id (bytes_ex hb fh aL aS aW nL cL nS cS nW cW aI nI cI w hnL hnS hnW hnI iS.at) : Hid (Calls _ _ _ _ _))
  unfold maxLen at hnL hnS hnW
  have HI : Hid (∀ i, i < nS → nI i ≤ maxLen) := hnI
  have IL : Hid (IntsIs w aL nL cL zL) := iL
  have IS : Hid (Ints2Is w aS nS cS aI nI cI zI) := iS
  have IW : Hid (IntsIs w aW nW cW zW) := iW
  clear hnI iL iS iW
  by_cases q1 : (131072 : Int) < (nL : Int)
  · go_enter Try.func6, Try.ntmps6
    go_wp2_with fail
    refine HB.out.mono ?_
    rintro e w1 ⟨⟨t, rfl⟩, rfl⟩
    cases t <;> (go_wp2; go_ret; exact ⟨rfl, Below.refl _ _⟩)
  by_cases q2 : (131072 : Int) < (nW : Int)
  · go_enter Try.func6, Try.ntmps6
    go_wp2_with fail
    refine HB.out.mono ?_
    rintro e w1 ⟨⟨t, rfl⟩, rfl⟩
    cases t <;> (go_wp2; go_ret; exact ⟨rfl, Below.refl _ _⟩)
  by_cases q3 : (65536 : Int) < (nS : Int)
  · go_enter Try.func6, Try.ntmps6
    go_wp2_with fail
    refine HB.out.mono ?_
    rintro e w1 ⟨⟨t, rfl⟩, rfl⟩
    cases t <;> (go_wp2; go_ret; exact ⟨rfl, Below.refl _ _⟩)
  by_cases q4 : (1048576 : Int) < 8 * (nL : Int) + 8 * (nW : Int) + 24 * (nS : Int)
  · go_enter Try.func6, Try.ntmps6
    go_wp2_with fail
    refine HB.out.mono ?_
    rintro e w1 ⟨⟨t, rfl⟩, rfl⟩
    cases t <;> (go_wp2; go_ret; exact ⟨rfl, Below.refl _ _⟩)
  go_enter Try.func6, Try.ntmps6
  go_wp2_with fail
  refine HB.out.mono ?_
  rintro e w0 ⟨⟨t, rfl⟩, rfl⟩
  clear HB
  cases t with
  | false => go_wp2; go_ret; exact ⟨rfl, Below.refl _ _⟩
  | true =>
  go_wp2_with fail
  go_loop [11, 12] (fun s i => ∃ k t : Nat, k ≤ nS ∧ t ≤ 1048576 ∧ i = .int .i64 k ∧ s = .int .i64 t ∧ Hid (t = 8 * nL + 8 * nW + 24 * nS + 8 * (flat nI zI k).length) ∧ Hid (∀ i, i < k → nI i ≤ 131072)) (fun _ i => nS - (intOf i).toNat)
  case atStart => exact ⟨0, 8 * nL + 8 * nW + 24 * nS, by omega, by omega, rfl, by go_num, by simp [flat, Hid], fun i hi => by omega⟩
  case round =>
    obtain ⟨k, t, hk, ht, rfl, rfl, htot, hall⟩ := hrel
    by_cases hlt : k < nS
    · obtain ⟨b, off, rfl, hc⟩ := IS.out.at (by omega)
      have hcell := hc k hlt
      have hm := HI.out k hlt
      unfold maxLen at hm
      clear hc
      by_cases p1 : (131072 : Int) < (nI k : Int)
      · go_wp2
        go_ret
        exact ⟨rfl, Below.refl _ _⟩
      by_cases p2 : (1048576 : Int) < (t : Int) + 8 * (nI k : Int)
      · go_wp2
        go_ret
        exact ⟨rfl, Below.refl _ _⟩
      have HT : Hid (t + 8 * nI k = 8 * nL + 8 * nW + 24 * nS + 8 * (flat nI zI (k + 1)).length) := by have := htot.out; have := len_flat nI zI k; unfold Hid; omega
      have HA : Hid (∀ i, i < k + 1 → nI i ≤ 131072) := fun i hi => by
        by_cases e : i = k
        · subst e; omega
        · exact hall.out i (by omega)
      clear htot hall
      go_wp2
      go_round
      case rel => exact ⟨k + 1, t + 8 * nI k, by omega, by omega, by go_num, by go_num, HT, HA⟩
      case measure => simp [intOf]; omega
    · obtain rfl : nS = k := by omega
      have htl : (flat nI zI nS).length ≤ 131072 := by have := htot.out; omega
      have HTL : Hid ((flat nI zI nS).length ≤ 131072) := htl
      have HC1 := (id (copyInts_any aL nL cL zL w (by omega) IL.out) : Hid (Calls _ _ _ _ _))
      clear htl htot ht HI IL
      go_wp2_with fail
      refine HC1.out.mono ?_
      rintro e w1 ⟨a1, c1, rfl, hr1, hn1, hb1⟩
      clear hn1
      have HC2 := (id (copyInts2_any aS nS cS aI nI cI zI w1 (by omega) (fun i hi => by have := hall.out i hi; omega) (by
        rcases IS.out with q | ⟨x, e, q⟩
        · exact .inl q
        · refine .inr ⟨x, e, fun h => ?_⟩
          obtain ⟨b, off, e2, hc⟩ := q h
          exact ⟨b, off, e2, fun i hi => ⟨by rw [hb1.cell (by exact World.block_lt_of_cell? w _ (hc i hi).1)]; exact (hc i hi).1, (hc i hi).2.below hb1⟩⟩)) : Hid (Calls _ _ _ _ _))
      have HR1 : Hid (RowInts w1 a1 nL c1 zL) := hr1
      clear HC1 hr1 IS
      go_wp2_with fail
      refine HC2.out.mono ?_
      rintro e w2 ⟨a2, c2, aI2, cI2, rfl, hr2, hb2⟩
      have hb02 : Below w.heap.size w w2 := hb1.trans (hb2.mono hb1.size)
      have HC3 := (id (copyInts_any aW nW cW zW w2 (by omega) (IW.out.below hb02)) : Hid (Calls _ _ _ _ _))
      have HR2 : Hid (RowInts w2 a1 nL c1 zL ∧ RowInts2 w2 a2 nS c2 aI2 nI cI2 zI) := ⟨HR1.out.below hb2, hr2⟩
      clear HC2 hr2 HR1 IW hb1 hb2
      go_wp2_with fail
      refine HC3.out.mono ?_
      rintro e w3 ⟨a3, c3, rfl, hr3, hn3, hb3⟩
      clear hn3
      have hb03 : Below w.heap.size w w3 := hb02.trans (hb3.mono hb02.size)
      have hR1 := HR2.out.1.below hb3
      have hR2 := HR2.out.2.below hb3
      have HZ := (id (zzrel_any hb fh a1 a2 a3 nL c1 nS c2 nW c3 zL zW aI2 nI cI2 zI w3 (by omega) (by omega) (by omega) (fun i hi => by have := hall.out i hi; omega) (by have := HTL.out; omega) hR1.is hR2.is hr3.is) : Hid (Calls _ _ _ _ _))
      have HR3 : Hid (RowInts w3 a1 nL c1 zL ∧ RowInts2 w3 a2 nS c2 aI2 nI cI2 zI ∧ RowInts w3 a3 nW c3 zW) := ⟨hR1, hR2, hr3⟩
      clear HC3 hr3 HR2 hR1 hR2 hb02 hb3
      go_wp2_with fail
      refine HZ.out.mono ?_
      rintro e w6 ⟨out, r, rfl, hres, hrow, hlr, hb6⟩
      have hend : ExEnd w6 hb fh a1 a2 a3 nL c1 nS c2 nW c3 r zL zW aI2 nI cI2 zI out := ⟨hres, hrow, HR3.out.1.below hb6, HR3.out.2.1.below hb6, HR3.out.2.2.below hb6, by omega, by omega, by omega, hall.out, HTL.out⟩
      have HE : Hid (ExEnd w6 hb fh a1 a2 a3 nL c1 nS c2 nW c3 r zL zW aI2 nI cI2 zI out) := hend
      have hb06 : Below w.heap.size w w6 := hb03.trans (hb6.mono hb03.size)
      clear hend hres hrow HR3 HZ hlr hb6 hb03 hall HTL
      cases hb with
      | false =>
        have ho : out = [] := HE.out.res.1 rfl
        subst ho
        clear HE
        go_wp2
        go_ret
        exact ⟨rfl, hb06⟩
      | true =>
        go_upto_if 100 with fail
        go_cut [15] from 23 (fun s15 wc => w6 = wc ∧ ∃ aV cV, s15 = .slice aV (orZero fh nW) cV ∧ Hid (IntsAt w6 aV (orZero fh nW) zW))
        case first =>
          cases fh with
          | false =>
            go_wp2_with fail
            go_meet
            case rel => exact ⟨rfl, none, 0, rfl, fun h => absurd h (Nat.lt_irrefl _)⟩
          | true =>
            go_wp2_with fail
            go_meet
            case rel => exact ⟨rfl, a3, c3, rfl, HE.out.v.is.at⟩
        case rest =>
          obtain ⟨rfl, aV, cV, rfl, hV⟩ := hcut
          rcases HE.out.l with ⟨rfl, rfl, rfl⟩ | ⟨b1, rfl, hcc, hrl⟩
          · have ho : out = flat nI zI nS := HE.out.res.2.1 rfl rfl
            subst ho
            have hq := fun (w : World) => Lib.run_eql_slice_nil (P := Try.prog) w 34 3 none 0 0 0 0 Try.underlying34
            have hbt := HE.out.tot
            go_wp2_with fail
            go_loopw [16, 17] (fun s i wr => ∃ k m T : Nat, k ≤ nS ∧ i = .int .i64 k ∧ s = .int .i64 T ∧ T ≤ (flat nI zI nS).length ∧ Hid (T = (flat nI zI k).length) ∧ w6.drewN m = wr) (fun _ i _ => nS - (intOf i).toNat)
            case atStart => exact ⟨0, 0, 0, by omega, rfl, rfl, by omega, rfl, rfl⟩
            case round =>
              obtain ⟨k, m, T, hk, rfl, rfl, hT, hTe, rfl⟩ := hrel
              by_cases hlt : k < nS
              · rcases HE.out.s with ⟨_, q, _⟩ | ⟨b2, rfl, _, hr2, hri⟩
                · omega
                have c2 := hr2.cell hlt
                have hle := len_flat_le nI zI (show k + 1 ≤ nS by omega)
                rw [len_flat] at hle
                have hT2 : T + nI k ≤ (flat nI zI nS).length := by have := hTe.out; omega
                have HRI : Hid (RowInts w6 (aI2 k) (nI k) (cI2 k) (zI k)) := hri k hlt
                clear hr2 hri hle
                go_wp2_with fail
                go_loopw [16, 18] (fun s i wr => ∃ j m : Nat, j ≤ nI k ∧ i = .int .i64 j ∧ s = .int .i64 ((T + j : Nat) : Int) ∧ w6.drewN m = wr) (fun _ i _ => nI k - (intOf i).toNat)
                case atStart => exact ⟨0, m, by omega, rfl, rfl, rfl⟩
                case round =>
                  obtain ⟨j, m2, hj, rfl, rfl, rfl⟩ := hrel
                  by_cases hlj : j < nI k
                  · rcases HRI.out with ⟨_, q, _⟩ | ⟨b3, e3, _, hr3⟩
                    · omega
                    rw [e3] at c2
                    have c3 := hr3.cell hlj
                    have c4 : w6.cell? ⟨r, T + j, none⟩ = some (.int .i64 (zI k j)) := by
                      rw [HE.out.row.cell (by omega), hTe.out, List.getD_eq_getElem?_getD, flat_get nI zI hlt hlj]
                      rfl
                    have hd : decide (((flat nI zI nS).length : Int) ≤ (T : Int) + (j : Int)) = false := decide_eq_false (by omega)
                    clear hr3 e3
                    go_wp2_with fail
                    go_quiet (fail)
                    go_wp2_with fail
                    go_roundw
                    case rel => exact ⟨j + 1, _, by omega, by go_num, by go_num, rfl⟩
                    case measure => simp [intOf]; omega
                  · obtain rfl : j = nI k := by omega
                    have HN : Hid (T + nI k = (flat nI zI (k + 1)).length) := by have := hTe.out; have := len_flat nI zI k; unfold Hid; omega
                    go_wp2_with fail
                    go_roundw
                    case rel => exact ⟨k + 1, _, T + nI k, by omega, by go_num, by go_num, hT2, HN, rfl⟩
                    case measure => simp [intOf]; omega
              · obtain rfl : nS = k := by omega
                have := hTe.out
                subst this
                go_wp2_with fail
                go_ret
                exact ⟨by simp, below_drewN hb06 _⟩
          · have hcc' := hcc.symm
            subst hcc'
            clear hcc
            obtain ⟨s, s1, s2, s3, s4, ho⟩ := HE.out.res.2.2 rfl rfl
            have hq := fun (w : World) => Lib.run_eql_slice_nil (P := Try.prog) w 34 3 (some ⟨b1, 0, none⟩) nL nL 0 0 Try.underlying34
            have hlen : out.length = nL - s := by rw [ho]; simp
            have hgo : ∀ i, i < out.length → out.getD i 0 = zL (s + i) := by
              intro i hi
              rw [hlen] at hi
              rw [ho]
              simp [hi]
            obtain ⟨R, hR⟩ : ∃ R, R = out.length := ⟨_, rfl⟩
            have hrow := HE.out.row
            have hsL : s ≤ nL := s1
            have hsV : s ≤ orZero fh nW := s2
            have hRs : s + R = nL := by omega
            have HO : Hid (∀ i, i < R → w6.cell? ⟨r, i, none⟩ = some (.int .i64 (zL (s + i)))) := fun i hi => by rw [hrow.cell (by omega), hgo i (by omega)]
            have HRL : Hid (w6.rowIs b1 3 nL (fun i => .int .i64 (zL i))) := hrl
            have H34 : Hid ((∀ i, i < s → zL i = zW i) ∧ (s = nL ∨ s = orZero fh nW ∨ zL s ≠ zW s)) := ⟨s3, s4⟩
            have hbV : orZero fh nW ≤ 131072 := by have := HE.out.bW; unfold orZero; split <;> omega
            rw [← hR]
            clear ho hlen hgo hrow hrl s3 s4 s1 s2 hR HE
            go_wp2_with fail
            go_loopw [21] (fun i wr => ∃ t m : Nat, t ≤ R ∧ i = .int .i64 t ∧ w6.drewN m = wr) (fun i _ => R - (intOf i).toNat)
            case atStart => exact ⟨0, 0, by omega, rfl, rfl⟩
            case round =>
              obtain ⟨t4, m, ht4, rfl, rfl⟩ := hrel
              by_cases hlt : t4 < R
              · have c1 := HO.out t4 hlt
                have c2 : w6.cell? ⟨b1, nL - R + t4, none⟩ = some (.int .i64 (zL (s + t4))) := by
                  rw [HRL.out.cell (by omega), show nL - R + t4 = s + t4 by omega]
                clear hRs
                go_wp2_with fail
                go_quiet (fail)
                go_wp2_with fail
                go_roundw
                case rel => exact ⟨t4 + 1, _, by omega, by go_num, rfl⟩
                case measure => simp [intOf]; omega
              · have hp : ¬ ((orZero fh nW : Nat) : Int) < (nL : Int) - (R : Int) := by omega
                go_wp2_with fail
                go_loopw [22] (fun i wr => ∃ t m : Nat, t ≤ s ∧ i = .int .i64 t ∧ w6.drewN m = wr) (fun i _ => s - (intOf i).toNat)
                case atStart => exact ⟨0, m, by omega, rfl, rfl⟩
                case round =>
                  obtain ⟨t5, m5, ht5, rfl, rfl⟩ := hrel
                  by_cases hlt5 : t5 < s
                  · obtain ⟨bv, ov, rfl, hcv⟩ := hV.out (by omega)
                    have c1 := HRL.out.cell (i := t5) (by omega)
                    have c2 : w6.cell? ⟨bv, ov + t5, none⟩ = some (.int .i64 (zL t5)) := by rw [hcv t5 (by omega), H34.out.1 t5 hlt5]
                    have hp5 : (t5 : Int) < (nL : Int) - (R : Int) := by omega
                    clear hcv hV
                    go_wp2_with fail
                    go_quiet (fail)
                    go_wp2_with fail
                    go_roundw
                    case rel => exact ⟨t5 + 1, _, by omega, by go_num, rfl⟩
                    case measure => simp [intOf]; omega
                  · have hp5 : ¬ (t5 : Int) < (nL : Int) - (R : Int) := by omega
                    by_cases hA : s = nL
                    · have e1 : (((nL : Int) - (R : Int)) == (nL : Int)) = true := by rw [beq_iff_eq]; omega
                      have hR0 : R = 0 := by omega
                      subst hR0
                      clear hRs hA e1
                      go_wp2_with fail
                      go_quiet (fail)
                      go_wp2_with fail
                      go_ret
                      exact ⟨by simp, below_drewN (below_drewN hb06 _) _⟩
                    · have e1 : (((nL : Int) - (R : Int)) == (nL : Int)) = false := by rw [beq_eq_false_iff_ne]; omega
                      by_cases hB : s = orZero fh nW
                      · have e2 : (((nL : Int) - (R : Int)) == ((orZero fh nW : Nat) : Int)) = true := by rw [beq_iff_eq]; omega
                        clear hRs hA hB
                        go_wp2_with fail
                        go_quiet (fail)
                        go_wp2_with fail
                        go_ret
                        exact ⟨by simp, below_drewN (below_drewN hb06 _) _⟩
                      · have e2 : (((nL : Int) - (R : Int)) == ((orZero fh nW : Nat) : Int)) = false := by rw [beq_eq_false_iff_ne]; omega
                        have hne : zL s ≠ zW s := by
                          rcases H34.out.2 with q | q | q
                          · exact absurd q hA
                          · exact absurd q hB
                          · exact q
                        have e3 : (zL s != zW s) = true := by rw [bne_iff_ne]; exact hne
                        obtain ⟨bv, ov, rfl, hcv⟩ := hV.out (by omega)
                        have hsR : nL - R = s := by omega
                        have c1 : w6.cell? ⟨b1, nL - R, none⟩ = some (.int .i64 (zL s)) := by rw [HRL.out.cell (by omega), hsR]
                        have c2 : w6.cell? ⟨bv, ov + (nL - R), none⟩ = some (.int .i64 (zW s)) := by rw [hcv _ (by omega), hsR]
                        have hi1 : (nL : Int) - (R : Int) < (nL : Int) := by omega
                        have hi2 : (nL : Int) - (R : Int) < ((orZero fh nW : Nat) : Int) := by omega
                        clear hRs hA hB hcv hV hne hsR
                        go_wp2_with fail
                        go_quiet (fail)
                        go_wp2_with fail
                        go_ret
                        exact ⟨by simp, below_drewN (below_drewN hb06 _) _⟩
end Go.Proofs.Qxb6600323a
