import Derived.Test.Qxb6600323aRelH
namespace Go.Proofs.Qxb6600323a
open Go.RowKit
set_option linter.unusedVariables false

theorem wpList_append_run {P : Program} {w : World} {ops : Array Oper} {rest : List Oper} {o : Oper} {a : Act} {Q : Exit → Act → World → Prop}
    (hg : o.guard = none) (s x : Operand) (t : TypeId) (hop : o.op = Op.call { callee := Callee.builtin Builtin.append, args := #[s, x], argTypes := #[t, t] })
    {v1 v2 v' : Value} {w' : World} (hs : a.eval s = v1) (hx : a.eval x = v2) (hrun : (Builtin.append_ #[t, t] o.type #[v1, v2]).run P w = .ok v' w')
    (hK : wpList P ops Q rest (a.put o.dst v') w') :
    wpList P ops Q (o :: rest) a w := by
  refine wpList_plain hg fun K hK' => ?_
  unfold Oper.wp
  simp [execOp, hop, resolve, invoke, builtin, hs, hx, hrun, Result.andThen]
  exact hK' _ _ hK

def intL (n : Nat) (z : Nat → Int) : List Value := (List.range n).map fun i => .int .i64 (z i)
theorem intL_one (n : Nat) (z : Nat → Int) : ∀ u ∈ intL n z, u.oneCell' = true := by
  intro u hu
  obtain ⟨i, _, rfl⟩ := List.mem_map.1 hu
  rfl
theorem RowInts.src {w : World} {a : Option Addr} {n c : Nat} {z : Nat → Int} (h : RowInts w a n c z) : SrcIs w a n c (intL n z) := by
  rcases h with ⟨rfl, rfl, rfl⟩ | ⟨b, rfl, _, hr⟩
  · exact .inl ⟨rfl, rfl, rfl, rfl⟩
  · refine .inr ⟨_, rfl, ?_⟩
    intro j u hu
    have hj : j < n := by
      have := (List.getElem?_eq_some_iff.1 hu).1
      simpa [intL] using this
    simp [intL, hj] at hu
    rw [show (⟨b, 0, none⟩ : Addr).add j = ⟨b, j, none⟩ by unfold Addr.add; split <;> simp_all, hr.cell hj, ← hu]
theorem owns_ints {w : World} {base : Nat} {a : Option Addr} {n c : Nat} {z : Nat → Int} (h : w.ownsRow base 3 1 (.slice a n c) n (intL n z)) : IntsIs w a n c z := by
  rcases h.2 with ⟨q, _⟩ | ⟨g, cap, cur, q, _⟩
  · simp at q
    exact .inl ⟨q.1, q.2.1, q.2.2⟩
  · simp at q
    obtain ⟨rfl, rfl⟩ := q
    refine .inr ⟨_, rfl, fun _ => ⟨g, 0, rfl, fun i hi => ?_⟩⟩
    have := h.cells (g := g) rfl i (.int .i64 (z i)) (by simp [intL, hi])
    rw [← this]
    congr 1
    unfold Addr.add
    split <;> simp_all
def joinZ (n : Nat) (z z' : Nat → Int) (i : Nat) : Int := if i < n then z i else z' (i - n)
theorem joinZ_list (n m : Nat) (z z' : Nat → Int) : intL n z ++ intL m z' = intL (n + m) (joinZ n z z') := by
  unfold intL
  rw [List.range_add, List.map_append, List.map_map]
  congr 1
  · apply List.map_congr_left
    intro i hi
    have : i < n := by simpa using hi
    simp [joinZ, this]
  · apply List.map_congr_left
    intro i hi
    simp only [Function.comp, joinZ]
    rw [if_neg (by omega), Nat.add_sub_cancel_left]

theorem run_make_cap (w : World) (n : Int) (c : Nat) (h : n = (c : Int)) (hc : c ≤ 1048576) :
    (Instr.makeSlice 34 (.int .i64 0) (.int .i64 n)).run Try.prog w = .ok (.slice (some ⟨w.heap.size, 0, none⟩) 0 c) (w.alloc (.cells (madeCells #[.int .i64 0] c) 3)) := by
  subst h
  obtain ⟨i, hi, hzz⟩ := Option.map_eq_some_iff.1 Try.info3R
  simp only [Prod.mk.injEq] at hzz
  obtain ⟨hz, hs, hb⟩ := hzz
  have hr := run_make (P := Try.prog) w 34 3 i (.int .i64 0) Try.underlying34 hi hz .i64 .i64 0 c (by omega) (by omega) (by rw [hb]; omega) (by omega)
  simpa [hs, Value.cells] using hr

/-- The plain law. -/
theorem nb_law {nw ne : Nat} {zw ze : Nat → Int} {ln : Bool} {nI : Nat → Nat} {zI : Nat → Nat → Int} {out : List Int} (hln : ln = true → nw + ne = 0) (h : Res ⟨true, ln, nw + ne, joinZ nw zw ze, 0, nI, zI⟩ nw zw out) : out.length = ne ∧ ∀ i, i < ne → out.getD i 0 = ze i := by
  obtain ⟨_, h2, h3⟩ := h
  cases hl : ln with
  | true =>
    have h0 := hln hl
    have := h2 rfl hl
    simp [flat] at this
    subst this
    exact ⟨by simp; omega, fun i hi => by omega⟩
  | false =>
    obtain ⟨s, s1, s2, s3, s4, rfl⟩ := h3 rfl hl
    simp only at s1 s2 s3 s4
    have hs : s = nw := by
      rcases s4 with q | q | q
      · omega
      · exact q
      · by_cases e : s < nw
        · exfalso; apply q; simp [joinZ, e]
        · omega
    subst hs
    refine ⟨by simp, fun i hi => ?_⟩
    simp [hi]
    unfold joinZ
    rw [if_neg (by omega), Nat.add_sub_cancel_left]

set_option maxRecDepth 100000 in
set_option maxHeartbeats 1000000 in
theorem nb_walk (a a' : Option Addr) (n c n' c' : Nat) (z z' : Nat → Int) (w : World) (hn : n ≤ maxLen) (hn' : n' ≤ maxLen) (h1 : IntsIs w a n c z) (h2 : IntsIs w a' n' c' z') :
    Calls Try.prog 7 #[.slice a n c, .slice a' n' c'] w fun e w' => e = .returned (.bool true) ∧ Below w.heap.size w w' := by
  have HB := (id (bytes_nb a a' n c n' c' w hn hn') : Hid (Calls _ _ _ _ _))
  unfold maxLen at hn hn'
  by_cases hs : 65536 < n
  · have hs' : (65536 : Int) < (n : Int) := by omega
    go_enter Try.func7, Try.ntmps7
    go_wp2_with fail
    refine HB.out.mono ?_
    rintro e w1 ⟨⟨t, rfl⟩, rfl⟩
    cases t <;> (go_wp2; go_ret; exact ⟨rfl, Below.refl _ _⟩)
  by_cases hs2 : 65536 < n'
  · have hs' : ¬ (65536 : Int) < (n : Int) := by omega
    have hs'' : (65536 : Int) < (n' : Int) := by omega
    go_enter Try.func7, Try.ntmps7
    go_wp2_with fail
    refine HB.out.mono ?_
    rintro e w1 ⟨⟨t, rfl⟩, rfl⟩
    cases t <;> (go_wp2; go_ret; exact ⟨rfl, Below.refl _ _⟩)
  have hs' : ¬ (65536 : Int) < (n : Int) := by omega
  have hs'' : ¬ (65536 : Int) < (n' : Int) := by omega
  have HC1 := (id (copyInts_any a n c z w (by omega) h1) : Hid (Calls _ _ _ _ _))
  have H2 : Hid (IntsIs w a' n' c' z') := h2
  clear h1 h2
  go_enter Try.func7, Try.ntmps7
  go_wp2_with fail
  refine HB.out.mono ?_
  rintro e w0 ⟨⟨t, rfl⟩, rfl⟩
  cases t with
  | false => go_wp2; go_ret; exact ⟨rfl, Below.refl _ _⟩
  | true =>
  go_wp2_with fail
  refine HC1.out.mono ?_
  rintro e w1 ⟨a1, c1, rfl, hr1, _, hb1⟩
  have HC2 := (id (copyInts_any a' n' c' z' w1 (by omega) (H2.out.below hb1)) : Hid (Calls _ _ _ _ _))
  have HR1 : Hid (RowInts w1 a1 n c1 z) := hr1
  clear HC1 H2 HB hr1
  go_wp2_with fail
  refine HC2.out.mono ?_
  rintro e w2 ⟨a2, c2, rfl, hr2, _, hb2⟩
  have hr1 := HR1.out.below hb2
  have hb02 : Below w.heap.size w w2 := hb1.trans (hb2.mono hb1.size)
  have hmk := fun w => run_make_cap w ((n : Int) + (n' : Int)) (n + n') (by omega) (by omega)
  obtain ⟨W3, hW3⟩ : ∃ W3, W3 = w2.alloc (.cells (madeCells #[.int .i64 0] (n + n')) 3) := ⟨_, rfl⟩
  have hb23 : Below w2.heap.size w2 W3 := by rw [hW3]; exact (Below.refl _ _).alloc (Nat.le_refl _) _
  have hsz3 : W3.heap.size = w2.heap.size + 1 := by rw [hW3]; simp
  have hown3 : W3.ownsRow w2.heap.size 3 1 (.slice (some ⟨w2.heap.size, 0, none⟩) 0 (n + n')) 0 [] := by
    rw [hW3]
    exact World.ownsRow_made w2 _ _ (Nat.le_refl _) (by unfold maxLen; omega) (by simp [size_madeCells])
  obtain ⟨a4, c4, w4, hrun4, hown4, hgr4⟩ := run_append_src (P := Try.prog) W3 w2.heap.size 34 34 3 (.int .i64 0) 1 8 Try.underlying34 Try.info3R rfl (by decide) _ _ _ hown3 a1 n c1 (intL n z) (by simp [intL]) (hr1.below hb23).src (intL_one _ _) (by unfold maxLen; omega) (by omega) (by omega)
  have hb24 : Below w2.heap.size w2 w4 := hb23.grown hgr4 (by omega) (fun k hk => (hown3.lt k hk).1)
  obtain ⟨a5, c5, w5, hrun5, hown5, hgr5⟩ := run_append_src (P := Try.prog) w4 w2.heap.size 34 34 3 (.int .i64 0) 1 8 Try.underlying34 Try.info3R rfl (by decide) _ _ _ hown4 a2 n' c2 (intL n' z') (by simp [intL]) (hr2.below hb24).src (intL_one _ _) (by unfold maxLen; omega) (by omega) hb24.size
  have hb25 : Below w2.heap.size w2 w5 := hb24.grown hgr5 hb24.size (fun k hk => (hown4.lt k hk).1)
  rw [List.nil_append, joinZ_list, Nat.zero_add] at hown5
  have hi5 := owns_ints hown5
  have hln : a5.isNone = true → n + n' = 0 := by
    intro h
    rcases hi5 with ⟨_, q, _⟩ | ⟨x, rfl, _⟩
    · exact q
    · cases h
  have hz := zzrel_any true true a5 none a1 (n + n') c5 0 0 n c1 (joinZ n z z') z (fun _ => none) (fun _ => 0) (fun _ => 0) (fun _ _ => 0) w5 (by omega) (by omega) (by omega) (fun i hi => by omega) (by simp [flat]) hi5 (.inl ⟨rfl, rfl, rfl⟩) (hr1.below hb25).is
  have HZ := (id hz : Hid (Calls _ _ _ _ _))
  have HR2 : Hid (RowInts w5 a2 n' c2 z') := hr2.below hb25
  have hb05 : Below w.heap.size w w5 := hb02.trans (hb25.mono hb02.size)
  have HLN : Hid (a5.isNone = true → n + n' = 0) := hln
  subst hW3
  rw [Nat.zero_add] at hrun4
  rw [Nat.zero_add] at hrun5
  clear hz hi5 hown5 hown4 hown3 hgr4 hgr5 hb23 hb24 hb25 hr1 hr2 HR1 HC2 hln hsz3 hb02
  go_wp2_with (first | (at_builtin; refine wpList_append_run rfl (.tmp 30) (.tmp 31) 34 rfl rfl rfl hrun4 ?_) | (at_builtin; refine wpList_append_run rfl (.tmp 33) (.tmp 34) 34 rfl rfl rfl hrun5 ?_) | fail)
  refine HZ.out.mono ?_
  rintro e w6 ⟨out, r, rfl, hres, hrow, hlr, hb6⟩
  obtain ⟨hlen, hout⟩ := nb_law HLN.out hres
  rw [hlen] at hrow ⊢
  have HE := (id (eqInts_true (some ⟨r, 0, none⟩) a2 n' n' c2 z' w6 (by omega) (fun _ => ⟨r, 0, rfl, fun i hi => by rw [Nat.zero_add, hrow.cell hi, hout i hi]⟩) ((HR2.out.is.at).below hb6)) : Hid (Calls _ _ _ _ _))
  have hb06 : Below w.heap.size w w6 := hb05.trans (hb6.mono hb05.size)
  clear hres hrow hout hlen HZ HR2 hb6 hrun4 hrun5
  go_wp2_with fail
  refine HE.out.mono ?_
  rintro e w7 ⟨rfl, k, rfl⟩
  go_wp2
  go_ret
  exact ⟨rfl, below_drewN hb06 k⟩
end Go.Proofs.Qxb6600323a
