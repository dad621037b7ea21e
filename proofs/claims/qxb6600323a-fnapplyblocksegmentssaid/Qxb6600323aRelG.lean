import Derived.Test.Qxb6600323aRelF
namespace Go.Proofs.Qxb6600323a
open Go.RowKit
set_option linter.unusedVariables false

theorem NBases.setRow {w : World} {g : Int → Option Nat} {A : Ask} {o : Option Nat} (h : NBases w g A o) {b t n : Nat} {f : Nat → Value} (hr : w.rowIs b t n f) (h1 : t ≠ 95) (h2 : t ≠ 59) (h3 : t ≠ 97) (i : Nat) (v : Value) : NBases (w.setCell ⟨b, i, none⟩ v) g A o := by
  cases o with
  | none => exact h
  | some lb =>
    obtain ⟨h0, aL, cL, aS, cS, S, aI, cI, r1, r2, r3, r4, r5, r6⟩ := h
    exact ⟨h0, aL, cL, aS, cS, S, aI, cI, r1.setOther (by exact row_ne r1 hr (fun e => h1 e.symm)) _, r2.setRow hr h2 _ _, r3, r4, fun q => ⟨(r5 q).1, (r5 q).2.setOther (by exact row_ne (r5 q).2 hr (fun e => h3 e.symm)) _⟩, fun i hi => ⟨(r6 i hi).1.setRow hr h2 _ _, (r6 i hi).2⟩⟩
theorem NBases.alloc {w : World} {g : Int → Option Nat} {A : Ask} {o : Option Nat} (h : NBases w g A o) (ob : Obj) : NBases (w.alloc ob) g A o := by
  cases o with
  | none => exact h
  | some lb =>
    obtain ⟨h0, aL, cL, aS, cS, S, aI, cI, r1, r2, r3, r4, r5, r6⟩ := h
    exact ⟨h0, aL, cL, aS, cS, S, aI, cI, r1.alloc _, r2.alloc _, r3, r4, fun q => ⟨(r5 q).1, (r5 q).2.alloc _⟩, fun i hi => ⟨(r6 i hi).1.alloc _, (r6 i hi).2⟩⟩

theorem NBases.drew {w : World} {g : Int → Option Nat} {A : Ask} {o : Option Nat} (h : NBases w g A o) : NBases w.drew g A o := by
  cases o with
  | none => exact h
  | some lb => exact h
theorem Core.drew {N : Nat} {w wr : World} {g : Int → Option Nat} {o : Option Nat} (h : Core N w wr g o) : Core N w wr.drew g o := ⟨h.1, h.2.1, h.2.2.1, h.2.2.2.drew⟩

def orZero (b : Bool) (n : Nat) : Nat := if b then n else 0
/-- Ready for relisted. -/
def Ready (N : Nat) (w : World) (A : Ask) (nW : Nat) (zW : Nat → Int) (wr : World) : Prop :=
  ∃ g o aW cW, Reg wr N g ∧ wr.rowIs (N + 1 + 1) 91 17 (nodeF o (some (N + 1))) ∧ NBases wr g A o ∧ Lists wr (N + 1) aW nW cW ∧ ListingIs wr g aW nW cW zW ∧ Has g nW zW ∧ Below N w wr
theorem ready_no {N : Nat} {w wr : World} {A : Ask} {zW : Nat → Int} {g : Int → Option Nat} {o : Option Nat} (hc : Core N w wr g o) (hn : NBases wr g A o) : Ready N w A 0 zW wr := by
  obtain ⟨h1, h2, h3, h4⟩ := hc
  exact ⟨g, o, none, 0, h1, h3, hn, .inl ⟨h2.cell (i := 1) (by omega), rfl, rfl, rfl⟩, .inl ⟨rfl, rfl, rfl⟩, fun i hi => by omega, h4⟩
theorem ready_yes {N : Nat} {w wr w5 : World} {A : Ask} {nW c5 : Nat} {a5 : Option Addr} {zW : Nat → Int} {g g5 : Int → Option Nat} {o : Option Nat} (hc : Core N w wr g o) (hn : NBases wr g A o)
    (hr : Reg w5 N g5) (he : Ext g g5) (hh : Has g5 nW zW) (hl : ListingIs w5 g5 a5 nW c5 zW) (hs : Same N wr w5) :
    Ready N w A nW zW ((w5.setCell ⟨N + 1, 1, none⟩ (.pointer (some ⟨w5.heap.size, 0, none⟩))).alloc (.cells #[.pointer none, .slice a5 nW c5, .slice none 0 0, .bool false] 95)) := by
  obtain ⟨h1, h2, h3, h4⟩ := hc.same hs hr
  have hn5 := hs.nbases hc.1 he hn
  have hlb := lb_made (w5.setCell ⟨N + 1, 1, none⟩ (.pointer (some ⟨w5.heap.size, 0, none⟩))) (.slice a5 nW c5)
  rw [size_set] at hlb
  refine ⟨g5, o, a5, c5, (h1.setCell h2 (by decide) 1 _).alloc _, (h3.setOther (by show N + 1 + 1 ≠ N + 1; omega) _).alloc _, (hn5.setRow h2 (by decide) (by decide) (by decide) 1 _).alloc _, .inr ⟨w5.heap.size, ?_, hlb.cell (i := 1) (by omega)⟩, (hl.setRow h2 (by decide) 1 _).alloc _, hh, (h4.setCell (by show N ≤ N + 1; omega) _).alloc (by rw [size_set]; have := h3.lt; omega) _⟩
  exact ((node_set h2 w5.heap.size).alloc _).cell (i := 1) (by omega)
theorem Ready.drew {N : Nat} {w wr : World} {A : Ask} {nW : Nat} {zW : Nat → Int} (h : Ready N w A nW zW wr) : Ready N w A nW zW wr.drew := by
  obtain ⟨g, o, aW, cW, h1, h2, h3, h4, h5, h6, h7⟩ := h
  exact ⟨g, o, aW, cW, h1, h2, by cases o with | none => exact h3 | some lb => exact h3, h4, h5, h6, h7.drew⟩

set_option maxRecDepth 100000 in
set_option maxHeartbeats 1000000 in
theorem zzrel_any (hb fh : Bool) (aL aS aW : Option Addr) (nL cL nS cS nW cW : Nat) (zL zW : Nat → Int) (aI : Nat → Option Addr) (nI cI : Nat → Nat) (zI : Nat → Nat → Int) (w : World)
    (hnL : nL ≤ 1048576) (hnW : nW ≤ 1048576) (hnS : nS ≤ 1048576) (hnI : ∀ i, i < nS → nI i ≤ 1048576) (htot : (flat nI zI nS).length ≤ 1048576)
    (iL : IntsIs w aL nL cL zL) (iS : Ints2Is w aS nS cS aI nI cI zI) (iW : IntsIs w aW nW cW zW) :
    Calls Try.prog 30 #[.bool hb, .slice aL nL cL, .slice aS nS cS, .bool fh, .slice aW nW cW] w fun e w' => ∃ out r, e = .returned (.tuple #[.slice (some ⟨r, 0, none⟩) out.length out.length, .bool true]) ∧
      Res ⟨hb, aL.isNone, nL, zL, nS, nI, zI⟩ (orZero fh nW) zW out ∧ w'.rowIs r 3 out.length (fun i => .int .i64 (out.getD i 0)) ∧ w.heap.size ≤ r ∧ Below w.heap.size w w' := by
  have hmm := @run_makeMap Try.prog
  have IL : Hid (IntsIs w aL nL cL zL) := iL
  have IS : Hid (Ints2Is w aS nS cS aI nI cI zI) := iS
  have IW : Hid (IntsIs w aW nW cW zW) := iW
  have HT : Hid ((flat nI zI nS).length ≤ 1048576) := htot
  have HI : Hid (∀ i, i < nS → nI i ≤ 1048576) := hnI
  clear iL iS iW htot hnI
  go_enter Try.func30, Try.ntmps30
  go_upto_if 25 with fail
  have HC : Hid (Core w.heap.size w _ (fun _ => none) none) := core_start w
  go_cut [] from 20 (fun wc => Hid (∃ g o, Core w.heap.size w wc g o ∧ NBases wc g ⟨hb, aL.isNone, nL, zL, nS, nI, zI⟩ o))
  case first =>
    cases hb with
    | false =>
      go_wp2_with fail
      go_meet
      case rel => exact ⟨_, _, HC.out, rfl⟩
    | true =>
      have hsec := secs_any aL nL cL w.heap.size zL _ _ hnL HC.out.1 (IL.out.below HC.out.2.2.2)
      have HSC := (id hsec : Hid (Calls _ _ _ _ _))
      clear hsec
      go_wp2_with fail
      refine HSC.out.mono ?_
      rintro e w4 ⟨aL', cL', g1, rfl, hr1, he1, hh1, hl1, hn1, hs1⟩
      have hc4 := HC.out.same hs1 hr1
      have hd := hc4.2.2.1.cell (i := 1) (by omega)
      have hf := hc4.2.2.1.frozen 1
      have hlN := hc4.2.2.1.lt
      have HC4 : Hid (Core w.heap.size w w4 g1 none) := hc4
      have HL : Hid (ListingIs w4 g1 aL' nL cL' zL ∧ aL'.isNone = aL.isNone ∧ Has g1 nL zL) := ⟨hl1, hn1, hh1⟩
      clear hc4 HSC HC hs1 hr1 hl1 hh1 he1 hn1
      have hq := fun (w : World) => run_neq_slice_nil_any (P := Try.prog) w 32 34 aS nS cS 0 0 Try.underlying32
      rcases IS.out with ⟨rfl, rfl, rfl⟩ | ⟨x, rfl, hx⟩
      · go_wp2_with fail
        go_meet
        case rel => exact ⟨g1, _, (Laying.start (A := ⟨true, aL.isNone, nL, zL, 0, nI, zI⟩) HC4.out HL.out).done rfl rfl⟩
      · have hmk := run_make_many (P := Try.prog) 93 97 (.agg #[.slice none 0 0, .pointer none]) 2 32 Try.underlying93 Try.info97 nS (by omega) (by omega)
        have HX := (id hx : Hid _)
        have HL5 : Hid (Laying w.heap.size w ⟨true, aL.isNone, nL, zL, nS, nI, zI⟩ w4.heap.size aL' cL' ((w4.setCell ⟨w.heap.size + 1 + 1, 1, none⟩ (.pointer (some ⟨w4.heap.size, 0, none⟩))).alloc (.cells #[.pointer none, .slice aL' nL cL', .slice none 0 0, .bool false] 95)) g1) := Laying.start HC4.out HL.out
        clear hx IS HC4 HL
        go_wp2_with fail
        have hsz5 : w.heap.size ≤ w4.heap.size := by omega
        go_loopw [15] (fun i wi => ∃ k : Nat, k ≤ nS ∧ i = .int .i64 k ∧ Hid (∃ g aI' cI', Laying w.heap.size w ⟨true, aL.isNone, nL, zL, nS, nI, zI⟩ w4.heap.size aL' cL' wi g ∧ LaidTo ⟨true, aL.isNone, nL, zL, nS, nI, zI⟩ (w4.heap.size + 1) k aI' cI' wi g)) (fun i _ => nS - (intOf i).toNat)
        case atStart =>
          refine ⟨0, Nat.zero_le _, rfl, ⟨g1, fun _ => none, fun _ => 0, HL5.out.alloc _, ?_, fun i hi => by omega⟩⟩
          have := made_ls ((w4.setCell ⟨w.heap.size + 1 + 1, 1, none⟩ (.pointer (some ⟨w4.heap.size, 0, none⟩))).alloc (.cells #[.pointer none, .slice aL' nL cL', .slice none 0 0, .bool false] 95)) nS
          rw [World.size_alloc, size_set] at this
          exact this.congr (fun i _ => by unfold lsC; simp)
        case round =>
          obtain ⟨k, hk, rfl, hre⟩ := hrel
          clear HL5
          obtain ⟨g, aI', cI', hLy, hLt⟩ := hre.out
          have hbel := hLy.1.2.2.2
          by_cases hlt : k < nS
          · obtain ⟨b, off, rfl, hcell⟩ := HX.out (by omega)
            have hc0 : wr.cell? ⟨b, off + k, none⟩ = some (.slice (aI k) (nI k) (cI k)) := by rw [hbel.cell (by exact World.block_lt_of_cell? w _ (hcell k hlt).1)]; exact (hcell k hlt).1
            have HSC := (id (secs_any (aI k) (nI k) (cI k) w.heap.size (zI k) g wr (HI.out k hlt) hLy.1.1 ((hcell k hlt).2.below hbel)) : Hid (Calls _ _ _ _ _))
            have HY : Hid (Laying w.heap.size w ⟨true, aL.isNone, nL, zL, nS, nI, zI⟩ w4.heap.size aL' cL' wr g ∧ LaidTo ⟨true, aL.isNone, nL, zL, nS, nI, zI⟩ (w4.heap.size + 1) k aI' cI' wr g) := ⟨hLy, hLt⟩
            clear hcell hre hLy hLt hbel HX
            go_wp2_with fail
            refine HSC.out.mono ?_
            rintro e w6 ⟨a5, c5, g5, rfl, hr5, he5, hh5, hl5, _, hs5⟩
            have hLy6 := HY.out.1.same hs5 hr5 he5
            have hLt6 := HY.out.2.same hs5 HY.out.1.1.1 he5
            have hd0 := hLt6.1.cell (i := k * 2) (by show k * 2 < nS * 2; omega)
            have hd1 := hLt6.1.cell (i := k * 2 + 1) (by show k * 2 + 1 < nS * 2; omega)
            have hf0 := hLt6.1.frozen (k * 2)
            have hf1 := hLt6.1.frozen (k * 2 + 1)
            have HN : Hid _ := LaidTo.next hLy6 hLt6 (by omega) hl5 hh5
            clear hLy6 hLt6 HSC hs5 hr5 he5 hh5 hl5 HY
            go_wp2_with fail
            go_roundw
            case rel => exact ⟨k + 1, by omega, by go_num, ⟨_, _, _, HN.out⟩⟩
            case measure => simp [intOf]; omega
          · obtain rfl : nS = k := by omega
            have hd2 := hLy.2.1.cell (i := 2) (by omega)
            have hf2 := hLy.2.1.frozen 2
            have hd1 : wr.cell? ⟨w.heap.size + 1 + 1, 1, none⟩ = some (.pointer (some ⟨w4.heap.size, 0, none⟩)) := hLy.1.2.2.1.cell (i := 1) (by omega)
            have HN : Hid _ := hLy.close hLt rfl
            clear hre hLy hLt hbel
            go_wp2_with fail
            go_meet
            case rel => exact ⟨_, _, HN.out⟩
  case rest =>
    go_upto_if 62 with fail
    go_cut [] from 20 (fun wd => Hid (Ready w.heap.size w ⟨hb, aL.isNone, nL, zL, nS, nI, zI⟩ (orZero fh nW) zW wd))
    case first =>
      obtain ⟨g, o, hc, hn⟩ := hcut.out
      cases fh with
      | false =>
        have HR : Hid (Ready w.heap.size w ⟨hb, aL.isNone, nL, zL, nS, nI, zI⟩ (orZero false nW) zW wc) := ready_no hc hn
        clear hc hn hcut
        go_wp2_with fail
        go_meet
        case rel => exact HR
      | true =>
        have hd14 : wc.cell? ⟨w.heap.size + 1 + 1, 14, none⟩ = some (.pointer (some ⟨w.heap.size + 1, 0, none⟩)) := hc.2.2.1.cell (i := 14) (by omega)
        have HSC := (id (secs_any aW nW cW w.heap.size zW g wc.drew hnW hc.1 (IW.out.below hc.2.2.2.drew)) : Hid (Calls _ _ _ _ _))
        have HY : Hid (Core w.heap.size w wc.drew g o ∧ NBases wc.drew g ⟨hb, aL.isNone, nL, zL, nS, nI, zI⟩ o) := ⟨hc.drew, hn.drew⟩
        clear hc hn hcut HC
        go_wp2_with fail
        go_region_with (go_at_call 38; refine HSC.out.mono ?_; rintro e w5 ⟨a5, c5, g5, rfl, hr5, he5, hh5, hl5, _, hs5⟩; have hc5 := HY.out.1.same hs5 hr5; have h514 : w5.cell? ⟨w.heap.size + 1 + 1, 14, none⟩ = some (.pointer (some ⟨w.heap.size + 1, 0, none⟩)) := hc5.2.2.1.cell (i := 14) (by omega); have h51 := hc5.2.1.cell (i := 1) (by omega); have hf51 := hc5.2.1.frozen 1; have hl51 := hc5.2.1.lt; have hl52 := hc5.2.2.1.lt; have HR : Hid _ := ready_yes HY.out.1 HY.out.2 hr5 he5 hh5 hl5 hs5; clear hc5 hr5 he5 hh5 hl5 hs5)
        all_goals
          go_wp2_with fail
          go_meet
          case rel => exact HR
    case rest =>
      obtain ⟨g, o, aW', cW', hr, hn, hnb, hli, hls, hh, hbel⟩ := hcut.out
      have HCL := (id (rel_any (w.heap.size + 1 + 1) (w.heap.size + 1) (orZero fh nW) cW' w.heap.size aW' zW g ⟨hb, aL.isNone, nL, zL, nS, nI, zI⟩ o wc hnL (by unfold orZero; split <;> omega) hnS HT.out hn hnb hli hls hh hr) : Hid (Calls _ _ _ _ _))
      have hreg : Hid (Reg wc w.heap.size g) := hr
      have hlt2 := hn.lt
      clear hcut hr hn hnb hli hls hh
      go_wp2_with fail
      refine HCL.out.mono ?_
      rintro e w6 ⟨rfl, hb6, out, ao, co, hres, hco, hout, hlo⟩
      have HRES : Hid (Res ⟨hb, aL.isNone, nL, zL, nS, nI, zI⟩ (orZero fh nW) zW out) := hres
      have hreg6 : Hid (∀ i b, g i = some b → w6.rowIs b 65 6 (secF i)) := fun i b hi => (hreg.out.2 i b hi).of_block (hb6.block _ (hreg.out.2 i b hi).lt)
      have HOUT : Hid (OutIs w6 g ao out) := hout
      have hbw : Below w.heap.size w w6 := hbel.trans (hb6.mono (by omega))
      have hmk := run_make_row' (P := Try.prog) 34 3 (.int .i64 0) 8 Try.underlying34 Try.info3R rfl .i64 .i64 out.length (by omega) (by omega)
      clear hres hout hb6 hreg HCL
      go_wp2_with fail
      go_loopw [18, 19] (fun kn i wi => ∃ k : Nat, k ≤ out.length ∧ i = .int .i64 k ∧ kn = .bool true ∧ Below w6.heap.size w6 wi ∧ wi.rowIs w6.heap.size 3 out.length (partR k (fun i => .int .i64 (out.getD i 0)) (.int .i64 0))) (fun _ i _ => out.length - (intOf i).toNat)
      case atStart => exact ⟨0, Nat.zero_le _, rfl, rfl, (Below.refl _ _).alloc (Nat.le_refl _) _, partR_start (World.rowIs_made _ _ _ _)⟩
      case round =>
        obtain ⟨k, hk, rfl, rfl, hbk, hrow⟩ := hrel
        by_cases hlt : k < out.length
        · obtain ⟨b, off, rfl, hcs⟩ := HOUT.out (by omega)
          have hget : out[k]? = some (out.getD k 0) := by simp [hlt]
          obtain ⟨blk, hg, hc⟩ := hcs k _ hget
          have hlb : b < w6.heap.size := World.block_lt_of_cell? w6 _ hc
          have hsec := hreg6.out _ _ hg
          have hsec' := hsec.of_block (hbk.block _ hsec.lt)
          have c0 : wr.cell? ⟨b, off + k, none⟩ = some (.pointer (some ⟨blk, 0, none⟩)) := by rw [hbk.cell (by exact hlb)]; exact hc
          have c4 : wr.cell? ⟨blk, 4, none⟩ = some (.int .i64 (out.getD k 0)) := hsec'.cell (i := 4) (by omega)
          have c5 : wr.cell? ⟨blk, 5, none⟩ = some (.bool true) := hsec'.cell (i := 5) (by omega)
          obtain ⟨id, hid⟩ : ∃ id, id = out.getD k 0 := ⟨_, rfl⟩
          rw [← hid] at c4
          have HID : Hid (id = out.getD k 0) := hid
          have hd := hrow.cell hlt
          have hf := hrow.frozen k
          clear hcs hget hg hc hsec hsec' hid
          go_wp2_with fail
          go_roundw
          case rel =>
            refine ⟨k + 1, by omega, by go_num, rfl, hbk.setCell (Nat.le_refl _) _, ?_⟩
            have := partR_set (f := fun i => .int .i64 (out.getD i 0)) hrow
            rw [← HID.out] at this
            exact this
          case measure => simp [intOf]; omega
        · obtain rfl : k = out.length := by omega
          go_wp2_with fail
          go_ret2
          exact ⟨out, w6.heap.size, rfl, HRES, partR_end hrow, hbw.size, hbw.trans (hbk.mono hbw.size)⟩
end Go.Proofs.Qxb6600323a
