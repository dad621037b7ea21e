import Derived.Test.Qxb6600323aApL
import Derived.Test.Qxb6600323aApB
import Derived.Test.Qxb6600323aRelC
namespace Go.Proofs.Qxb6600323a
open Go.RowKit
set_option linter.unusedVariables false

theorem Try.info4C : (Try.prog.info? 4).map (fun i => (i.zero, i.size, i.bytes)) = some (some (.bool false), 1, 1) := by kernel_rfl

theorem wpList_app_run {P : Program} {w : World} {ops : Array Oper} {rest : List Oper} {o : Oper} {a : Act} {Q : Exit → Act → World → Prop}
    (hg : o.guard = none) (s x : Operand) (t : TypeId) (hop : o.op = Op.call { callee := Callee.builtin Builtin.append, args := #[s, x], argTypes := #[t, t] })
    {v1 v2 v' : Value} {w' : World} (hs : a.eval s = v1) (hx : a.eval x = v2) (hrun : (Builtin.append_ #[t, t] o.type #[v1, v2]).run P w = .ok v' w')
    (hK : wpList P ops Q rest (a.put o.dst v') w') :
    wpList P ops Q (o :: rest) a w := by
  refine wpList_plain hg fun K hK' => ?_
  unfold Oper.wp
  simp [execOp, hop, resolve, invoke, builtin, hs, hx, hrun, Result.andThen]
  exact hK' _ _ hK

theorem run_make_capQ {t e : TypeId} {z : Value} {bytes : Nat} (ht : Try.prog.underlying t = some (.slice e)) (hinfo : (Try.prog.info? e).map (fun i => (i.zero, i.size, i.bytes)) = some (some z, 1, bytes)) (hzc : z.cells = #[z]) (w : World) (c : Nat) (hc : c ≤ 1048576) (hby : bytes ≤ 1024) :
    (Instr.makeSlice t (.int .i64 0) (.int .i64 c)).run Try.prog w = .ok (.slice (some ⟨w.heap.size, 0, none⟩) 0 c) (w.alloc (.cells (madeCells #[z] c) e)) := by
  obtain ⟨i, hi, hzz⟩ := Option.map_eq_some_iff.1 hinfo
  simp only [Prod.mk.injEq] at hzz
  obtain ⟨hz, hs, hb⟩ := hzz
  have hm : c * bytes ≤ 1048576 * 1024 := Nat.mul_le_mul hc hby
  have hr := run_make (P := Try.prog) w t e i z ht hi hz .i64 .i64 0 c (by omega) (by omega) (by rw [hb, ← Int.natCast_mul, Nat.mul_comm]; omega) (by omega)
  simpa [hs, hzc] using hr

def lineL (f : Nat → Value) (n : Nat) : List Value := (List.range n).map f
theorem lineL_one {f : Nat → Value} {n : Nat} (h : ∀ i, (f i).oneCell' = true) : ∀ u ∈ lineL f n, u.oneCell' = true := by
  intro u hu
  obtain ⟨i, _, rfl⟩ := List.mem_map.1 hu
  exact h i
theorem lineL_succ (f : Nat → Value) (n : Nat) : lineL f n ++ [f n] = lineL f (n + 1) := by simp [lineL, List.range_succ]
theorem owns_vals {w : World} {base t : Nat} {a : Option Addr} {n c : Nat} {f : Nat → Value} (h : w.ownsRow base t 1 (.slice a n c) n (lineL f n)) : ValsAt w a n f := by
  rcases h.2 with ⟨q, q2⟩ | ⟨g, cap, cur, q, _⟩
  · intro h; omega
  · simp at q
    obtain ⟨rfl, rfl⟩ := q
    refine fun _ => ⟨g, 0, rfl, fun i hi => ?_⟩
    have := h.cells (g := g) rfl i (f i) (by simp [lineL, hi])
    rw [← this]
    congr 1
    unfold Addr.add
    split <;> simp_all
theorem cell_fresh (w : World) (v : Value) (t : Nat) : (w.alloc (.cells #[v] t)).cell? ((⟨w.heap.size, 0, none⟩ : Addr).add 0) = some v := by
  rw [show (⟨w.heap.size, 0, none⟩ : Addr).add 0 = ⟨w.heap.size, 0, none⟩ by unfold Addr.add; split <;> simp_all]
  unfold World.cell?
  rw [heap_alloc_new]
  rfl
theorem below_grown0 {w w' : World} (h : Below w.heap.size w w') : w.grownBy w' none := ⟨h.os, h.tape, h.output, h.size, fun k hk _ => h.block k hk⟩

def keyV (I : Inp) (i : Nat) : Value := .string (I.K i)
def appV (I : Inp) (i : Nat) : Value := .bool (decide (I.O i = 1))
/-- The two rows of zzFlatten. -/
structure FL (I : Inp) (w wr : World) (p : Nat) (a1 : Option Addr) (c1 : Nat) (a2 : Option Addr) (c2 : Nat) : Prop where
  below : Below w.heap.size w wr
  r1 : wr.ownsRow w.heap.size 9 1 (.slice a1 p c1) p (lineL (keyV I) p)
  r2 : wr.ownsRow w.heap.size 4 1 (.slice a2 p c2) p (lineL (appV I) p)

theorem fl_step {I : Inp} {w wr : World} {p : Nat} {a1 : Option Addr} {c1 : Nat} {a2 : Option Addr} {c2 : Nat} (h : FL I w wr p a1 c1 a2 c2) (hp : p ≤ 1048576) :
    ∃ a1' c1' w2 a2' c2' w4, (Builtin.append_ #[28, 28] 28 #[.slice a1 p c1, .slice (some ⟨wr.heap.size, 0, none⟩) 1 1]).run Try.prog (wr.alloc (.cells #[keyV I p] 9)) = .ok (.slice a1' (p + 1) c1') w2 ∧ Below w.heap.size w w2 ∧
      (Builtin.append_ #[29, 29] 29 #[.slice a2 p c2, .slice (some ⟨w2.heap.size, 0, none⟩) 1 1]).run Try.prog (w2.alloc (.cells #[appV I p] 4)) = .ok (.slice a2' (p + 1) c2') w4 ∧ FL I w w4 (p + 1) a1' c1' a2' c2' := by
  obtain ⟨hb, h1, h2⟩ := h
  have hg1 : wr.grownBy (wr.alloc (.cells #[keyV I p] 9)) none := below_grown0 ((Below.refl _ _).alloc (Nat.le_refl _) _)
  have h1a := own_kept h1 hg1 (fun b _ => by simp)
  have h2a := own_kept h2 hg1 (fun b _ => by simp)
  have hba : Below w.heap.size w (wr.alloc (.cells #[keyV I p] 9)) := hb.alloc hb.size _
  have hsz1 : (wr.alloc (.cells #[keyV I p] 9)).heap.size = wr.heap.size + 1 := by simp
  have hs1 := hb.size
  obtain ⟨a1', c1', w2, hrun, hown, hgr⟩ := run_append_src (P := Try.prog) (wr.alloc (.cells #[keyV I p] 9)) w.heap.size 28 28 9 (.string ⟨#[]⟩) 1 16 Try.underlying28 Try.info9C rfl (by decide) _ _ _ h1a (some ⟨wr.heap.size, 0, none⟩) 1 1 [keyV I p] rfl
    (.inr ⟨_, rfl, fun j u hu => by
      have hj : j = 0 := by
        have := (List.getElem?_eq_some_iff.1 hu).1
        simp at this; exact this
      subst hj
      simp at hu
      subst hu
      exact cell_fresh _ _ _⟩) (by intro u hu; simp at hu; subst hu; rfl) (by unfold maxLen; omega) (by omega) hba.size
  have hb2 : Below w.heap.size w w2 := hba.grown hgr hba.size (fun k hk => (h1a.lt k hk).1)
  have h2b := own_kept h2a hgr (fun b hb' e => by
    have := own_isRow h1a e.symm
    exact (own_isRow h2a hb').ne this (by decide) rfl)
  rw [lineL_succ] at hown
  have hg2 : w2.grownBy (w2.alloc (.cells #[appV I p] 4)) none := below_grown0 ((Below.refl _ _).alloc (Nat.le_refl _) _)
  have h1c := own_kept hown hg2 (fun b _ => by simp)
  have h2c := own_kept h2b hg2 (fun b _ => by simp)
  have hbc : Below w.heap.size w (w2.alloc (.cells #[appV I p] 4)) := hb2.alloc hb2.size _
  obtain ⟨a2', c2', w4, hrun', hown', hgr'⟩ := run_append_src (P := Try.prog) (w2.alloc (.cells #[appV I p] 4)) w.heap.size 29 29 4 (.bool false) 1 1 Try.underlying29 Try.info4C rfl (by decide) _ _ _ h2c (some ⟨w2.heap.size, 0, none⟩) 1 1 [appV I p] rfl
    (.inr ⟨_, rfl, fun j u hu => by
      have hj : j = 0 := by
        have := (List.getElem?_eq_some_iff.1 hu).1
        simp at this; exact this
      subst hj
      simp at hu
      subst hu
      exact cell_fresh _ _ _⟩) (by intro u hu; simp at hu; subst hu; rfl) (by unfold maxLen; omega) (by omega) hbc.size
  have hb4 : Below w.heap.size w w4 := hbc.grown hgr' hbc.size (fun k hk => (h2c.lt k hk).1)
  have h1d := own_kept h1c hgr' (fun b hb' e => by
    have := own_isRow h2c e.symm
    exact (own_isRow h1c hb').ne this (by decide) rfl)
  rw [lineL_succ] at hown'
  exact ⟨a1', c1', w2, a2', c2', w4, hrun, hb2, hrun', hb4, h1d, hown'⟩

def FlatSays (I : Inp) (N : Nat) (w : World) (e : Ending) (w' : World) : Prop := ∃ a1 c1 a2 c2, e = .returned (.tuple #[.slice a1 N c1, .slice a2 N c2]) ∧ ValsAt w' a1 N (keyV I) ∧ ValsAt w' a2 N (appV I) ∧ Below w.heap.size w w'

set_option maxRecDepth 100000 in
set_option maxHeartbeats 1000000 in
/-- zzFlatten. -/
theorem flatten_any {a1 a2 : Option Addr} {nB : Nat} {aI aP : Nat → Option Addr} {nI cI cP : Nat → Nat} {kk : Nat → Nat → ByteArray} {oo : Nat → Nat → Int} {w : World} (c1 c2 : Nat) (hnB : nB ≤ 65536) (hN : psum nI nB ≤ 65536) (hK : KeysAt w a1 nB aI nI cI kk) (hO : OpsAt w a2 nB aP nI cP oo) :
    Calls Try.prog 15 #[.slice a1 nB c1, .slice a2 nB c2] w fun e w' => FlatSays (inpOf nB nI kk oo) (psum nI nB) w e w' := by
  have HK := (id hK : Hid (KeysAt _ _ _ _ _ _ _))
  have HO := (id hO : Hid (OpsAt _ _ _ _ _ _ _))
  have HN : Hid (psum nI nB ≤ 65536) := hN
  obtain ⟨I, hI⟩ : ∃ I, Hid (I = inpOf nB nI kk oo) := ⟨_, (rfl : inpOf nB nI kk oo = _)⟩
  rw [← hI.out]
  have hmk1 := fun (c : Nat) (hc : Hid (c ≤ 65536)) (w : World) => run_make_capQ Try.underlying28 Try.info9C rfl w c (by have := hc.out; omega) (by decide)
  have hmk2 := fun (c : Nat) (hc : Hid (c ≤ 65536)) (w : World) => run_make_capQ Try.underlying29 Try.info4C rfl w c (by have := hc.out; omega) (by decide)
  clear hK hO hN
  go_enter Try.func15, Try.ntmps15
  go_wp2
  go_loop [6, 7] (fun s i => ∃ k t : Nat, k ≤ nB ∧ t ≤ 65536 ∧ i = .int .i64 k ∧ s = .int .i64 t ∧ Hid (t = psum nI k)) (fun _ i => nB - (intOf i).toNat)
  case atStart => exact ⟨0, 0, by omega, by omega, rfl, rfl, (rfl : 0 = psum nI 0)⟩
  case round =>
    obtain ⟨k, t, hk, ht, rfl, rfl, hg⟩ := hrel
    by_cases hlt : k < nB
    · obtain ⟨b, off, rfl, hc⟩ := HK.out (by omega)
      have hcell := (hc k hlt).1
      have hle : t + nI k ≤ 65536 := by
        have h1 := psum_le nI (show k + 1 ≤ nB by omega)
        have h2 := HN.out
        have h3 := hg.out
        simp only [psum] at h1
        omega
      clear hc HK HO hmk1 hmk2
      go_wp2
      go_round
      case rel => exact ⟨k + 1, t + nI k, by omega, by omega, by go_num, by go_num, (by rw [psum, hg.out] : t + nI k = psum nI (k + 1))⟩
      case measure => simp [intOf]; omega
    · obtain rfl : k = nB := by omega
      have hm1 := hmk1 t ht
      have hm2 := hmk2 t ht
      clear hmk1 hmk2
      go_wp2
      go_loopw [8, 9, 10] (fun vk va i wr => ∃ b p a1 c1 a2 c2, b ≤ k ∧ i = .int .i64 (b : Nat) ∧ vk = .slice a1 p c1 ∧ va = .slice a2 p c2 ∧ Hid (p = psum nI b) ∧ Hid (FL I w wr p a1 c1 a2 c2)) (fun _ _ i _ => k - (intOf i).toNat)
      case atStart =>
        refine ⟨0, 0, _, _, _, _, by omega, rfl, rfl, rfl, (rfl : 0 = psum nI 0), ?_⟩
        refine (⟨((Below.refl _ _).alloc (Nat.le_refl _) _).alloc (by simp) _, ?_, ?_⟩ : FL I w _ 0 _ _ _ _)
        · exact own_kept (World.ownsRow_made w _ _ (Nat.le_refl _) (by unfold maxLen; omega) (by simp [size_madeCells])) (below_grown0 ((Below.refl _ _).alloc (Nat.le_refl _) _)) (fun b _ => by simp)
        · have h := World.ownsRow_made (e := 4) (size := 1) (base := w.heap.size) (w.alloc (Obj.cells (madeCells #[Value.string ⟨#[]⟩] t) 9)) (madeCells #[Value.bool false] t) t (by simp) (by unfold maxLen; omega) (by simp [size_madeCells])
          rw [show (w.alloc (Obj.cells (madeCells #[Value.string ⟨#[]⟩] t) 9)).heap.size = w.heap.size + 1 by simp] at h
          exact h
      case round =>
        rename World => wo
        obtain ⟨b, p, x1, d1, x2, d2, hb, rfl, rfl, rfl, hp, hF⟩ := hrel
        clear hm1 hm2
        by_cases hlt : b < k
        · obtain ⟨B, off, rfl, hc⟩ := HK.out (by omega)
          obtain ⟨B', off', rfl, hc'⟩ := HO.out (by omega)
          have HC := (id (hc b hlt) : Hid (_ ∧ _))
          have HC' := (id (hc' b hlt) : Hid (_ ∧ _))
          have hle : p + nI b ≤ 65536 := by
            have h1 := psum_le nI (show b + 1 ≤ k by omega)
            have h2 := HN.out
            have h3 := hp.out
            simp only [psum] at h1
            omega
          clear hc hc' HK HO
          go_wp2
          go_loopw [8, 9, 11] (fun vk va i wr => ∃ q p' a1 c1 a2 c2, q ≤ nI b ∧ i = .int .i64 (q : Nat) ∧ vk = .slice a1 p' c1 ∧ va = .slice a2 p' c2 ∧ p' = p + q ∧ Hid (FL I w wr p' a1 c1 a2 c2)) (fun _ _ i _ => nI b - (intOf i).toNat)
          case atStart => exact ⟨0, p, _, _, _, _, by omega, rfl, rfl, rfl, rfl, hF⟩
          case round =>
            obtain ⟨q, p', y1, e1, y2, e2, hq, rfl, rfl, rfl, hp', hF'⟩ := hrel
            have hcb : wr.cell? ⟨B, off + b, none⟩ = some (.slice (aI b) (nI b) (cI b)) := (hF'.out.below.cell (by exact World.block_lt_of_cell? w _ HC.out.1)).trans HC.out.1
            by_cases hlq : q < nI b
            · obtain ⟨b1, o1, haI, hk1⟩ := HC.out.2 (by omega)
              obtain ⟨b2, o2, haP, hk2⟩ := HC'.out.2 (by omega)
              obtain ⟨z1, f1, w2, z2, f2, w4, hrun, hb2, hrun', hF4⟩ := fl_step hF'.out (by omega)
              have hkey : keyV I p' = .string (kk b q) := by rw [keyV, hI.out, hp', hp.out, inp_K hlt hlq]
              have happ : appV I p' = .bool (decide (oo b q = 1)) := by rw [appV, hI.out, hp', hp.out, inp_O hlt hlq]
              rw [hkey] at hrun
              rw [happ] at hrun'
              have hkq : wr.cell? ⟨b1, o1 + q, none⟩ = some (.string (kk b q)) := (hF'.out.below.cell (by exact World.block_lt_of_cell? w _ (hk1 q hlq))).trans (hk1 q hlq)
              have hc2 : w2.cell? ⟨B', off' + b, none⟩ = some (.slice (aP b) (nI b) (cP b)) := (hb2.cell (by exact World.block_lt_of_cell? w _ HC'.out.1)).trans HC'.out.1
              have hkq2 : w2.cell? ⟨b2, o2 + q, none⟩ = some (.int .u8 (oo b q)) := (hb2.cell (by exact World.block_lt_of_cell? w _ (hk2 q hlq))).trans (hk2 q hlq)
              rw [haI] at hcb
              rw [haP] at hc2
              have HF4 : Hid (FL I w w4 (p' + 1) z1 f1 z2 f2) := hF4
              have HP' : Hid (p' = p + q) := hp'
              clear hk1 hk2 HC HC' hF' hF4 hkey happ haI haP hb2 hp'
              go_wp2_with (first | (at_builtin; refine wpList_app_run rfl (.tmp 44) (.tmp 52) 28 rfl rfl rfl hrun ?_) | (at_builtin; refine wpList_app_run rfl (.tmp 54) (.tmp 63) 29 rfl rfl rfl hrun' ?_) | fail)
              go_roundw
              case rel => exact ⟨q + 1, p' + 1, _, _, _, _, by omega, by go_num, rfl, rfl, (by rw [HP'.out]; rfl), HF4⟩
              case measure => simp [intOf]; omega
            · obtain rfl : q = nI b := by omega
              have HP' : Hid (p' = psum nI (b + 1)) := (by rw [hp', psum, hp.out] : p' = psum nI (b + 1))
              clear HC HC' hp'
              go_wp2_with fail
              go_roundw
              case rel => exact ⟨b + 1, p', _, _, _, _, by omega, by go_num, rfl, rfl, HP', hF'⟩
              case measure => simp [intOf]; omega
        · obtain rfl : b = k := by omega
          clear HK HO
          go_wp2_with fail
          go_ret2
          have hp2 := hp.out
          subst hp2
          exact ⟨_, _, _, _, rfl, owns_vals hF.out.r1, owns_vals hF.out.r2, hF.out.below⟩
end Go.Proofs.Qxb6600323a
