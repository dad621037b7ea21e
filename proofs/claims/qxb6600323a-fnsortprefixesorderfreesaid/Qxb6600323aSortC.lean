import Derived.Test.Qxb6600323aSortB
namespace Go.Proofs.Qxb6600323a
open Go.RowKit

set_option maxRecDepth 100000 in
set_option maxHeartbeats 2000000 in
theorem sort_any (b n : Nat) (F : Nat → Int × Int) (w : World) (hn : 1 ≤ n) (hn2 : n ≤ 131072)
    (hF : ∀ i, i < n → 0 ≤ (F i).1 ∧ (F i).1 < 18446744073709551616)
    (hr : w.rowIs b 101 (n * 2) (pairC F)) :
    Calls Try.prog 40 #[.slice (some ⟨b, 0, none⟩) n n] w fun e w' => ∃ r G, e = .returned (.slice (some ⟨r, 0, none⟩) n n) ∧ St n F 8 G ∧ w'.rowIs r 101 (n * 2) (pairC G) ∧ b ≤ r ∧ Below b w w' := by
  have hbN := hr.lt
  have hz := cnt_start F w
  have HF : Hid (∀ i, i < n → 0 ≤ (F i).1 ∧ (F i).1 < 18446744073709551616) := hF
  clear hF
  go_enter Try.func40, Try.ntmps40
  go_wp2_with (refine wpList_alloc rfl (t := 106) rfl (Try.alloc106 _) ?_)
  go_loopw [18] (fun i wr => ∃ k : Nat, k ≤ n ∧ i = .int .i64 k ∧ Below w.heap.size w wr ∧ wr.rowIs w.heap.size 106 2048 (cntC F k)) (fun i _ => n - (intOf i).toNat)
  case atStart => exact ⟨0, Nat.zero_le _, rfl, (Below.refl _ _).alloc (Nat.le_refl _) _, hz⟩
  case round =>
    obtain ⟨k, hk, rfl, hb, hc⟩ := hrel
    clear hz
    by_cases hlt : k < n
    · have hpz : w.heap.size < wr.heap.size := hc.lt
      have hrb : wr.rowIs b 101 (n * 2) (pairC F) := hr.of_block (hb.block b hbN)
      have g0 := pair_cell0 hrb hlt
      have g1 := pair_cell1 hrb hlt
      have hF0 := (HF.out k hlt).1
      have hF1 := (HF.out k hlt).2
      clear hrb
      go_wp2_with fail
      go_loopw [22] (fun i wi => ∃ d : Nat, d ≤ 8 ∧ i = .int .i64 d ∧ Below w.heap.size w wi ∧ wi.cell? ⟨wr.heap.size, 0, none⟩ = some (.int .u64 (F k).1) ∧ wi.rowIs w.heap.size 106 2048 (cntC2 F k d)) (fun i _ => 8 - (intOf i).toNat)
      case atStart =>
        refine ⟨0, by omega, rfl, hb.alloc (by omega) _, by simp, cnt_row0 (hc.alloc _)⟩
      case round =>
        obtain ⟨d, hd, rfl, hb2, hp2, hc2⟩ := hrel
        by_cases hd8 : d < 8
        · have hx : wr.cell? ⟨w.heap.size, d * 256 + ((F k).fst / 2 ^ (8 * d) % 256).toNat, none⟩ = some (.int .i64 (cnt (fun j => byteAt (F j).1 d) (byteAt (F k).1 d) k)) := cnt_cell hc2 hd8
          have hf : wr.frozen? ⟨w.heap.size, d * 256 + ((F k).fst / 2 ^ (8 * d) % 256).toNat, none⟩ = false := hc2.frozen _
          have hle := cnt_le (fun j => byteAt (F j).1 d) (byteAt (F k).1 d) k
          obtain ⟨c, hcc⟩ : ∃ c, c = cnt (fun j => byteAt (F j).1 d) (byteAt (F k).1 d) k := ⟨_, rfl⟩
          rw [← hcc] at hx hle
          have HC : Hid (c = cnt (fun j => byteAt (F j).1 d) (byteAt (F k).1 d) k) := hcc
          clear hcc
          go_wp2_with fail
          go_region
          go_wp2
          go_roundw
          case rel =>
            refine ⟨d + 1, by omega, by go_num, (hb2.setCell (Nat.le_refl _) _).drew, ?_, (cnt_next hc2 HC.out).drew⟩
            rw [World.cell?_drew, cell_setOther (Nat.ne_of_gt hpz)]
            exact hp2
          case measure => simp [intOf]; omega
        · have : d = 8 := by omega
          subst this
          go_wp2
          go_roundw
          case rel => exact ⟨k + 1, by omega, by go_num, hb2, cnt_row hc2⟩
          case measure => simp [intOf]; omega
    · obtain rfl : n = k := by omega
      have hmk := run_make_many (P := Try.prog) 99 101 (.agg #[.int .u64 0, .int .i64 0]) 2 16 Try.underlying99 Try.info101 n (by omega) (by omega)
      go_wp2_with fail
      go_region
      go_wp2_with fail
      have hlt2 := hc.lt
      have hmid : Mid n b w.heap.size w F 0 b wr.heap.size ((wr.alloc (Obj.cells (madeCells #[Value.int IntKind.u64 0, Value.int IntKind.i64 0] (n * 2)) 101)).drew) := by
        refine ⟨F, fun _ => (0, 0), cntC F n, st_start n F, ?_, made_pairs wr n, fun e => by omega, .inl rfl, by omega, by omega, by omega, Nat.le_refl _, by omega, (hc.alloc _).drew, ?_, ?_⟩
        · exact ((hr.of_block (hb.block b hbN)).alloc _).drew
        · intro i _ _; rfl
        · exact ((hb.mono (by omega)).alloc (by omega) _).drew
      have HM : Hid (Mid n b w.heap.size w F 0 b wr.heap.size ((wr.alloc (Obj.cells (madeCells #[Value.int IntKind.u64 0, Value.int IntKind.i64 0] (n * 2)) 101)).drew)) := hmid
      clear hmid hmk hc hb
      go_loopw [7, 8, 44] (fun f t i wi => ∃ d x y : Nat, d ≤ 8 ∧ i = .int .i64 d ∧ f = .slice (some ⟨x, 0, none⟩) n n ∧ t = .slice (some ⟨y, 0, none⟩) n n ∧ Hid (Mid n b w.heap.size w F d x y wi)) (fun _ _ i _ => 8 - (intOf i).toNat)
      case atStart => exact ⟨0, b, _, by omega, rfl, rfl, rfl, HM⟩
      case round =>
        obtain ⟨d, x, y, hd, rfl, rfl, rfl, hm⟩ := hrel
        clear HM
        by_cases hd8 : d < 8
        · obtain ⟨j, hj, hfst⟩ := hm.out.first hn
          have hpj := (HF.out j hj).1
          have hx : wr.cell? ⟨w.heap.size, d * 256 + ((F j).fst / 2 ^ (8 * d) % 256).toNat, none⟩ = some (.int .i64 (cnt (fun i => byteAt (F i).1 d) (byteAt (F j).1 d) n)) := hm.out.count hd8 (byteAt_lt _ _)
          obtain ⟨c, hcc⟩ : ∃ c, c = cnt (fun i => byteAt (F i).1 d) (byteAt (F j).1 d) n := ⟨_, rfl⟩
          rw [← hcc] at hx
          by_cases hcn : c = n
          · have HS : Hid (Mid n b w.heap.size w F (d + 1) x y wr) := hm.out.skip (fun i hi => (HF.out i hi).1) (hcc.symm.trans hcn)
            rw [hcn] at hx
            clear hcc hcn
            go_wp2_with fail
            go_quiet (fail)
            go_wp2
            go_roundw
            case rel => exact ⟨d + 1, x, y, by omega, by go_num, rfl, rfl, HS.out.drewN _⟩
            case measure => simp [intOf]; omega
          · have e1 : ((c : Int) == (n : Int)) = false := by rw [beq_eq_false_iff_ne]; omega
            clear hcc hcn
            go_wp2_with fail
            go_quiet (fail)
            go_wp2_with fail
            obtain ⟨G, O, hof, hst, hxb, hxy, hxC, hyC, hbx, hby⟩ := (hm.out.drewN nq).offs hd8
            have HO : Hid (Offs n b w.heap.size w F G O d x y 0 (wr.drewN nq)) := hof
            have HST : Hid (St n F d G) := hst
            clear hof hst hx hfst
            go_loopw [11, 64] (fun nx i wi => ∃ v : Nat, v ≤ 256 ∧ i = .int .i64 v ∧ (∃ o : Nat, nx = .int .i64 o ∧ Hid (o = off (fun i => byteAt (G i).1 d) n v)) ∧ Hid (Offs n b w.heap.size w F G O d x y v wi)) (fun _ i _ => 256 - (intOf i).toNat)
            case atStart => exact ⟨0, by omega, rfl, ⟨0, rfl, rfl⟩, HO⟩
            case round =>
              obtain ⟨v, hv, rfl, ⟨o, rfl, ho⟩, hof⟩ := hrel
              clear HO
              by_cases hv2 : v < 256
              · have hle := off_le G d n v hv2
                have hx := hof.out.cell hd8 hv2
                have hf := hof.out.free (d * 256 + v)
                obtain ⟨c1, hc1⟩ : ∃ c1, c1 = cnt (fun i => byteAt (G i).1 d) v n := ⟨_, rfl⟩
                rw [← hc1, ← ho.out] at hle
                rw [← hc1] at hx
                have HN : Hid (o + c1 = off (fun i => byteAt (G i).1 d) n (v + 1)) := by rw [hc1, ho.out]; rfl
                clear hc1
                go_wp2_with fail
                go_region
                go_wp2
                go_roundw
                case rel => exact ⟨v + 1, by omega, by go_num, ⟨o + c1, by go_num, HN⟩, (hof.out.step hv2 hxC hyC (by omega) ho.out).drew⟩
                case measure => simp [intOf]; omega
              · obtain rfl : v = 256 := by omega
                have HL : Hid (Laid n b w.heap.size w F G d x y 0 wr) := hof.out.laid
                clear hof ho
                go_wp2_with fail
                go_loopw [82] (fun i wi => ∃ k : Nat, k ≤ n ∧ i = .int .i64 k ∧ Hid (Laid n b w.heap.size w F G d x y k wi)) (fun i _ => n - (intOf i).toNat)
                case atStart => exact ⟨0, by omega, rfl, HL⟩
                case round =>
                  obtain ⟨k, hk, rfl, hl⟩ := hrel
                  clear HL
                  by_cases hk2 : k < n
                  · have g0 := pair_cell0 hl.out.1 hk2
                    have g1 := pair_cell1 hl.out.1 hk2
                    obtain ⟨jj, hjj, ejj⟩ := st_from HST.out k hk2
                    have hG0 := (HF.out jj hjj).1
                    have hG1 := (HF.out jj hjj).2
                    rw [ejj] at hG0 hG1
                    clear ejj hjj
                    have hx : wr.cell? ⟨w.heap.size, d * 256 + ((G k).fst / 2 ^ (8 * d) % 256).toNat, none⟩ = some (.int .i64 (pos (fun i => byteAt (G i).1 d) n k)) := hl.out.count hd8
                    have hfC := hl.out.freeC (d * 256 + ((G k).fst / 2 ^ (8 * d) % 256).toNat)
                    have hpl := pos_lt (fun i => byteAt (G i).1 d) (m := 256) (fun i _ => byteAt_lt _ _) hk2
                    obtain ⟨p, hp⟩ : ∃ p, p = pos (fun i => byteAt (G i).1 d) n k := ⟨_, rfl⟩
                    rw [← hp] at hx hpl
                    have HP : Hid (p = pos (fun i => byteAt (G i).1 d) n k) := hp
                    clear hp
                    obtain ⟨⟨u0, y0⟩, ⟨u1, y1⟩⟩ := hl.out.cellsY hpl
                    have fy0 := hl.out.freeY (p * 2)
                    have fy1 := hl.out.freeY (p * 2 + 1)
                    obtain ⟨lx, ly, lC⟩ := hl.out.lts
                    go_wp2_with fail
                    go_region
                    go_wp2_with fail
                    go_region
                    go_wp2
                    go_roundw
                    case rel => exact ⟨k + 1, by omega, by go_num, (((hl.out.step hk2 hxy hxC hyC (by omega) hby HP.out).alloc (by simp; omega) _).drew).drew⟩
                    case measure => simp [intOf]; omega
                  · obtain rfl : n = k := by omega
                    have HM : Hid (Mid n b w.heap.size w F (d + 1) y x wr) := hl.out.mid (fun i hi => (HF.out i hi).1) hn HST.out hxb hxy hxC hyC hbx hby
                    clear hl HST
                    go_wp2
                    go_roundw
                    case rel => exact ⟨d + 1, y, x, by omega, by go_num, rfl, rfl, HM⟩
                    case measure => simp [intOf]; omega
        · obtain rfl : d = 8 := by omega
          obtain ⟨G, O, fc, hst, hx, _, _, _, _, _, _, hbx, _, _, _, hbel⟩ := hm.out
          clear hm
          go_wp2
          go_ret
          exact ⟨x, G, rfl, hst, hx, hbx, hbel⟩
end Go.Proofs.Qxb6600323a
