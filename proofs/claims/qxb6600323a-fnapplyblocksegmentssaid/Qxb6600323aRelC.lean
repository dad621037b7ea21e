import Derived.Test.Qxb6600323aRelB
import Derived.Laws.AppendOwnNone
import Derived.Deep.RegionLaw
namespace Go.Proofs.Qxb6600323a
open Go.RowKit

/-- append by its run's equation, in a region that draws. -/
theorem step_append_run {P : Program} {ops : Array Oper} {o : Oper} {a : Act} {w : World} {K : Act → World → Prop} {Q : Exit → Act → World → Prop} {E : Prop}
    (hg : o.guard = none) (s x : Operand) (t : TypeId) (hop : o.op = Op.call { callee := Callee.builtin Builtin.append, args := #[s, x], argTypes := #[t, t] })
    {v1 v2 v' : Value} {w' : World} (hs : a.eval s = v1) (hx : a.eval x = v2) (hrun : (Builtin.append_ #[t, t] o.type #[v1, v2]).run P w = .ok v' w')
    (hK : K (a.put o.dst v') w') :
    if Region.wanted o (yielded ops a.tmps) = true then Oper.wp P o a w K Q else E := by
  have hw : Region.wanted o (yielded ops a.tmps) = true := by simp [Region.wanted, hg]
  rw [if_pos hw]
  unfold Oper.wp
  simp [execOp, hop, resolve, invoke, builtin, hs, hx, hrun, Result.andThen]
  exact hK

/-- What is appended: nil, or cells that lie there. -/
def SrcIs (w : World) (ax : Option Addr) (m c : Nat) (news : List Value) : Prop :=
  (ax = none ∧ m = 0 ∧ c = 0 ∧ news = []) ∨ ∃ ad, ax = some ad ∧ ∀ j u, news[j]? = some u → w.cell? (ad.add j) = some u
theorem run_append_src {P : Program} (w : World) (base : Nat) (t ty e : TypeId) (z : Value) (size bytes : Nat) (ht : P.underlying t = some (.slice e)) (hinfo : (P.info? e).map (fun i => (i.zero, i.size, i.bytes)) = some (some z, size, bytes)) (hzs : z.cells.size = size) (hsz : 0 < size)
    (v : Value) (n : Nat) (xs : List Value) (hown : w.ownsRow base e size v n xs) (ax : Option Addr) (m c : Nat) (news : List Value) (hl : news.length = m * size) (hsrc : SrcIs w ax m c news) (h1 : ∀ u ∈ news, u.oneCell' = true)
    (h63 : n + m ≤ maxLen) (hbytes : (n + m) * bytes ≤ 140737488355328) (hbase : base ≤ w.heap.size) :
    ∃ a' c' w', (Builtin.append_ #[t, t] ty #[v, .slice ax m c]).run P w = .ok (.slice a' (n + m) c') w' ∧ w'.ownsRow base e size (.slice a' (n + m) c') (n + m) (xs ++ news) ∧ w.grownBy w' v.ownBlock := by
  obtain ⟨i, hi, hzz⟩ := Option.map_eq_some_iff.1 hinfo
  simp only [Prod.mk.injEq] at hzz
  obtain ⟨hz, hs, hb⟩ := hzz
  rcases hsrc with ⟨rfl, rfl, rfl, rfl⟩ | ⟨ad, rfl, hc⟩
  · have hrun := run_append_owned_none (P := P) (w := w) base t ty e i size ht hi v n xs hown
    have hv : ∃ a' c', v = .slice a' n c' := by
      rcases hown.2 with ⟨rfl, rfl⟩ | ⟨g, cap, _, rfl, _⟩
      · exact ⟨none, 0, rfl⟩
      · exact ⟨_, _, rfl⟩
    obtain ⟨a', c', rfl⟩ := hv
    exact ⟨a', c', w, by simpa using hrun, by simpa using hown, ⟨rfl, rfl, rfl, Nat.le_refl _, fun _ _ _ => rfl⟩⟩
  · obtain ⟨v', w', hrun, r1, r2, _⟩ := run_append_own (P := P) w base t ty e i z size bytes ht hi hz hs hb hzs hsz v n xs hown ad m c news hl hc h1 h63 hbytes hbase
    have hv : ∃ a' c', v' = .slice a' (n + m) c' := by
      rcases r1.2 with ⟨rfl, h0⟩ | ⟨g, cap, _, rfl, _⟩
      · exact ⟨none, 0, by rw [h0]⟩
      · exact ⟨_, _, rfl⟩
    obtain ⟨a', c', rfl⟩ := hv
    exact ⟨a', c', w', hrun, r1, r2⟩

/-- n keeps no bases. -/
theorem rel_none (nb fb nW cW : Nat) (aW : Option Addr) (w : World) (h1 : w.cell? ⟨nb, 1, none⟩ = some (.pointer none)) (hfrom : w.cell? ⟨nb, 14, none⟩ = some (.pointer (some ⟨fb, 0, none⟩))) (h2 : Lists w fb aW nW cW) :
    Calls Try.prog 39 #[.pointer (some ⟨nb, 0, none⟩)] w fun e w' => e = .returned (.pointer (some ⟨w.heap.size, 0, none⟩)) ∧ Below w.heap.size w w' ∧ w'.cell? ⟨w.heap.size, 0, none⟩ = some (.slice none 0 0) := by
  have hlnb : nb < w.heap.size := World.block_lt_of_cell? w _ hfrom
  have H1 : ∀ o k, Hid (Lists ((w.alloc o).drewN k) nb none 0 0) := fun o k => ((show Lists w nb none 0 0 from .inl ⟨h1, rfl, rfl, rfl⟩).alloc o).drewN k
  have H2 : ∀ o k, Hid (Lists ((w.alloc o).drewN k) fb aW nW cW) := fun o k => (h2.alloc o).drewN k
  have hq := fun (w : World) => run_neq_slice_nil_any (P := Try.prog) w 60 59 none 0 0 0 0 Try.underlying60
  clear h2
  go_enter Try.func39, Try.ntmps39
  go_wp2_with fail
  go_quiet ((first | (go_at_call_of 41 (Value.pointer (some (Addr.mk nb 0 none))); exact Calls.quiet_of_same (listed_any nb 0 0 none _ (H1 _ _).out)) | (go_at_call_of 41 (Value.pointer (some (Addr.mk fb 0 none))); exact Calls.quiet_of_same (listed_any fb nW cW aW _ (H2 _ _).out))))
  go_wp2_with fail
  go_ret
  exact ⟨rfl, below_drewN ((Below.refl _ _).alloc (Nat.le_refl _) _) _, by simp⟩

/-! ### bases laid end to end -/
def flat (nI : Nat → Nat) (zI : Nat → Nat → Int) : Nat → List Int
  | 0 => []
  | k + 1 => flat nI zI k ++ (List.range (nI k)).map (zI k)
def ptrL (g : Int → Option Nat) (l : List Int) : List Value := l.map fun i => ptr ((g i).getD 0)
theorem ptrL_one (g : Int → Option Nat) (l : List Int) : ∀ u ∈ ptrL g l, u.oneCell' = true := by
  intro u hu
  obtain ⟨i, _, rfl⟩ := List.mem_map.1 hu
  rfl
theorem len_flat_le (nI : Nat → Nat) (zI : Nat → Nat → Int) {k n : Nat} (h : k ≤ n) : (flat nI zI k).length ≤ (flat nI zI n).length := by
  induction n with
  | zero => have : k = 0 := by omega
            subst this; exact Nat.le_refl _
  | succ n ih =>
    by_cases e : k = n + 1
    · subst e; exact Nat.le_refl _
    · have := ih (by omega)
      simp [flat]; omega
/-- The cells of a row of listings. -/
def lsC (A : Nat → Value) (i : Nat) : Value := if i % 2 = 0 then A (i / 2) else .pointer none
theorem lsC_0 (A : Nat → Value) (q : Nat) : lsC A (q * 2) = A q := by unfold lsC; rw [if_pos (by omega), show q * 2 / 2 = q by omega]
theorem lsC_1 (A : Nat → Value) (q : Nat) : lsC A (q * 2 + 1) = .pointer none := by unfold lsC; rw [if_neg (by omega)]
/-- The cells of the section that relisted returns. -/
def relC (v : Value) (i : Nat) : Value := if i = 0 then v else if i < 3 then .slice none 0 0 else if i = 3 then .map none else if i = 4 then .int .i64 0 else .bool false
/-- One listing's bases. -/
def ListingIs (w : World) (g : Int → Option Nat) (a : Option Addr) (n c : Nat) (z : Nat → Int) : Prop :=
  (a = none ∧ n = 0 ∧ c = 0) ∨ ∃ b, a = some ⟨b, 0, none⟩ ∧ c = n ∧ w.rowIs b 59 n (ptrs g z)
theorem ListingIs.src {w w' : World} {g : Int → Option Nat} {a : Option Addr} {n c : Nat} {z : Nat → Int} (h : ListingIs w g a n c z) (hb : Below w.heap.size w w') : SrcIs w' a n c (ptrL g ((List.range n).map z)) := by
  rcases h with ⟨rfl, rfl, rfl⟩ | ⟨b, rfl, _, hr⟩
  · exact .inl ⟨rfl, rfl, rfl, rfl⟩
  · refine .inr ⟨_, rfl, ?_⟩
    intro j u hu
    have hr' := hr.of_block (hb.block _ hr.lt)
    have hj : j < n := by
      have := (List.getElem?_eq_some_iff.1 hu).1
      simpa [ptrL] using this
    simp [ptrL, hj] at hu
    rw [show (⟨b, 0, none⟩ : Addr).add j = ⟨b, j, none⟩ by unfold Addr.add; split <;> simp_all, hr'.cell hj, ← hu]
    rfl

theorem rel_made (w : World) : (w.alloc (Obj.cells #[Value.slice none 0 0, Value.slice none 0 0, Value.slice none 0 0, Value.map none, Value.int IntKind.i64 0, Value.bool false] 65)).rowIs w.heap.size 65 6 (relC (.slice none 0 0)) :=
  World.rowIs_alloc w #[Value.slice none 0 0, Value.slice none 0 0, Value.slice none 0 0, Value.map none, Value.int IntKind.i64 0, Value.bool false] 65 (relC (.slice none 0 0)) (fun i hi => by
    match i, hi with
    | 0, _ => rfl
    | 1, _ => rfl
    | 2, _ => rfl
    | 3, _ => rfl
    | 4, _ => rfl
    | 5, _ => rfl)

set_option maxRecDepth 100000 in
set_option maxHeartbeats 1000000 in
theorem rel_listings (nb fb lb nS cS S nW cW : Nat) (aS aW : Option Addr) (aI : Nat → Option Addr) (nI cI : Nat → Nat) (zI : Nat → Nat → Int) (g : Int → Option Nat) (w : World) (hnS : nS ≤ 1048576) (htot : (flat nI zI nS).length ≤ 1048576)
    (h1 : w.cell? ⟨nb, 1, none⟩ = some (.pointer (some ⟨lb, 0, none⟩))) (hl1 : w.cell? ⟨lb, 1, none⟩ = some (.slice none 0 0)) (hl2 : w.cell? ⟨lb, 2, none⟩ = some (.slice aS nS cS))
    (hS : 0 < nS → aS = some ⟨S, 0, none⟩ ∧ w.rowIs S 97 (nS * 2) (lsC fun i => .slice (aI i) (nI i) (cI i))) (hI : ∀ i, i < nS → ListingIs w g (aI i) (nI i) (cI i) (zI i))
    (hfrom : w.cell? ⟨nb, 14, none⟩ = some (.pointer (some ⟨fb, 0, none⟩))) (h2 : Lists w fb aW nW cW) :
    Calls Try.prog 39 #[.pointer (some ⟨nb, 0, none⟩)] w fun e w' => e = .returned (.pointer (some ⟨w.heap.size, 0, none⟩)) ∧ Below w.heap.size w w' ∧
      ∃ v, w'.cell? ⟨w.heap.size, 0, none⟩ = some v ∧ w'.ownsRow (w.heap.size + 1) 59 1 v (flat nI zI nS).length (ptrL g (flat nI zI nS)) := by
  have hlnb : nb < w.heap.size := World.block_lt_of_cell? w _ hfrom
  have hllb : lb < w.heap.size := World.block_lt_of_cell? w _ hl1
  have H1 : ∀ o k, Hid (Lists ((w.alloc o).drewN k) nb none 0 0) := fun o k => ((show Lists w nb none 0 0 from .inr ⟨lb, h1, hl1⟩).alloc o).drewN k
  have H2 : ∀ o k, Hid (Lists ((w.alloc o).drewN k) fb aW nW cW) := fun o k => (h2.alloc o).drewN k
  have hq := fun (w : World) => run_neq_slice_nil_any (P := Try.prog) w 60 59 none 0 0 0 0 Try.underlying60
  have HS := (id hS : Hid _)
  have HI := (id hI : Hid _)
  clear h2 hS hI
  go_enter Try.func39, Try.ntmps39
  go_wp2_with fail
  go_quiet ((first | (go_at_call_of 41 (Value.pointer (some (Addr.mk nb 0 none))); exact Calls.quiet_of_same (listed_any nb 0 0 none _ (H1 _ _).out)) | (go_at_call_of 41 (Value.pointer (some (Addr.mk fb 0 none))); exact Calls.quiet_of_same (listed_any fb nW cW aW _ (H2 _ _).out))))
  go_wp2_with fail
  go_loopw [64] (fun i wr => ∃ k : Nat, k ≤ nS ∧ i = .int .i64 k ∧ Below w.heap.size w wr ∧ Hid (∃ a c, wr.rowIs w.heap.size 65 6 (relC (.slice a (flat nI zI k).length c)) ∧ wr.ownsRow (w.heap.size + 1) 59 1 (.slice a (flat nI zI k).length c) (flat nI zI k).length (ptrL g (flat nI zI k)))) (fun i _ => nS - (intOf i).toNat)
  case atStart =>
    refine ⟨0, Nat.zero_le _, rfl, below_drewN ((Below.refl _ _).alloc (Nat.le_refl _) _) _, ⟨none, 0, rel_made w, World.ownsRow_nil _ _ _ _⟩⟩
  case round =>
    obtain ⟨k, hk, rfl, hb, hg⟩ := hrel
    by_cases hlt : k < nS
    · obtain ⟨rfl, rS⟩ := HS.out (by omega)
      obtain ⟨a, c, hrow, hown⟩ := hg.out
      have hsrc := (HI.out k hlt).src hb
      have rS' := rS.of_block (hb.block _ rS.lt)
      have g0 : wr.cell? ⟨S, k * 2, none⟩ = some (.slice (aI k) (nI k) (cI k)) := by rw [rS'.cell (by omega), lsC_0]
      have g1 : wr.cell? ⟨S, k * 2 + 1, none⟩ = some (.pointer none) := by rw [rS'.cell (by omega), lsC_1]
      have hc0 : wr.cell? ⟨w.heap.size, 0, none⟩ = some (.slice a (flat nI zI k).length c) := hrow.cell (i := 0) (by omega)
      have hf0 := hrow.frozen 0
      have hlr := hrow.lt
      have hle : (flat nI zI k).length + nI k ≤ 1048576 := by
        have := len_flat_le nI zI (show k + 1 ≤ nS by omega)
        simp [flat] at this
        omega
      have hsrc2 := (HI.out k hlt).src ((hb.alloc (by have := hb.size; omega) (Obj.cells #[.slice (aI k) (nI k) (cI k), .pointer none] 97)).drew)
      obtain ⟨a', c', w2, hrun, hown2, hgr⟩ := run_append_src (P := Try.prog) ((wr.alloc (Obj.cells #[.slice (aI k) (nI k) (cI k), .pointer none] 97)).drew) (w.heap.size + 1) 60 60 59 (.pointer none) 1 8 Try.underlying60 Try.info59 rfl (by decide) _ _ _ (hown.alloc _) (aI k) (nI k) (cI k) (ptrL g ((List.range (nI k)).map (zI k))) (by simp [ptrL]) hsrc2 (ptrL_one _ _) (by unfold maxLen; omega) (by omega) (by simp; omega)
      have hne : some w.heap.size ≠ (Value.slice a (flat nI zI k).length c).ownBlock := by
        intro e
        have := hown.lt _ e.symm
        omega
      have hrow2 := ((hrow.alloc (Obj.cells #[.slice (aI k) (nI k) (cI k), .pointer none] 97)).drew).of_block (hgr.block _ (by simp; omega) hne)
      have hb2 : Below w.heap.size w w2 := ((hb.alloc (by have := hb.size; omega) (Obj.cells #[.slice (aI k) (nI k) (cI k), .pointer none] 97)).drew).grown hgr (by simp; omega) (fun j hj => by have := hown.lt _ hj; omega)
      have hc2 : w2.cell? ⟨w.heap.size, 0, none⟩ = some (.slice a (flat nI zI k).length c) := hrow2.cell (i := 0) (by omega)
      have hf2 := hrow2.frozen 0
      have HN : Hid (∃ a c, (w2.setCell ⟨w.heap.size, 0, none⟩ (.slice a' ((flat nI zI k).length + nI k) c')).rowIs w.heap.size 65 6 (relC (.slice a (flat nI zI (k + 1)).length c)) ∧
          (w2.setCell ⟨w.heap.size, 0, none⟩ (.slice a' ((flat nI zI k).length + nI k) c')).ownsRow (w.heap.size + 1) 59 1 (.slice a (flat nI zI (k + 1)).length c) (flat nI zI (k + 1)).length (ptrL g (flat nI zI (k + 1)))) := by
        have e1 : (flat nI zI (k + 1)).length = (flat nI zI k).length + nI k := by simp [flat]
        have e2 : ptrL g (flat nI zI (k + 1)) = ptrL g (flat nI zI k) ++ ptrL g ((List.range (nI k)).map (zI k)) := by simp [flat, ptrL]
        rw [e1, e2]
        refine ⟨a', c', (hrow2.set 0 _).congr ?_, ownsRow_setCell_below hown2 (by show w.heap.size < w.heap.size + 1; omega) _⟩
        intro i hi
        unfold relC
        by_cases e : i = 0 <;> simp [e]
      have hb3 := hb2.setCell (p := ⟨w.heap.size, 0, none⟩) (Nat.le_refl _) (.slice a' ((flat nI zI k).length + nI k) c')
      have HB3 := (id hb3 : Hid _)
      clear hown2 hgr hrow2 hown hrow hg hb2 hb3 hsrc hsrc2 rS rS'
      go_wp2_with fail
      go_region_law (refine step_append_run rfl (.tmp 72) (.tmp 74) 60 rfl (by simp [Act.eval]) (by simp [Act.eval]) hrun ?_)
      all_goals
        go_wp2
        go_roundw
        case rel => exact ⟨k + 1, by omega, by go_num, HB3, HN⟩
        case measure => simp [intOf]; omega
    · obtain rfl : nS = k := by omega
      obtain ⟨a, c, hrow, hown⟩ := hg.out
      clear hg
      go_wp2
      go_ret
      exact ⟨rfl, hb, _, hrow.cell (by omega), hown⟩
end Go.Proofs.Qxb6600323a
