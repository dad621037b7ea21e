/-
  A PROOF OF 'Rows.FnRelistedExactSaid': the frame after the kit's skeleton program, typed by hand for these parameters; the walk typed by hand.
-/
import Derived.Test.Qxb6600323aRows
import Derived.WalkKit
import Derived.ProofKit
import Derived.OpenShut
import Derived.ShutString
import Derived.ChangeOld
import Derived.Below
import Derived.Deep.Matrix
import Derived.Test.Qxb6600323aRelK
namespace Go.Proofs.Qxb6600323a.fnRelistedExact
open Go.ChangeShapes Go.WideShapes Go.ChangeAt Go.RowKit
open Go.ChangeMaps (open_string shut_string)
set_option linter.unusedVariables false

theorem own : ownKnob Try.prog.godebug = none := by kernel_rfl
theorem laidOut : laidOutB Try.prog = true := by kernel_rfl
theorem cells34 : Try.prog.cellsOf 34 = 1 := by kernel_rfl
theorem cells3 : Try.prog.cellsOf 3 = 1 := by kernel_rfl

theorem ints_of {w : World} {a : Option Addr} {len cap : Nat} {zs : List Int} (hlc : len ≤ cap) (hz : zs.length = cap) (h0 : a = none → len = 0 ∧ cap = 0) (hc : ∀ x, a = some x → ∀ i, i < cap → w.cell? (x.add i) = some (.int .i64 (zs.getD i 0))) : IntsIs w a len cap (fun i => zs.getD i 0) := by
  cases a with
  | none => exact .inl ⟨rfl, (h0 rfl).1, (h0 rfl).2⟩
  | some x =>
    refine .inr ⟨x, rfl, fun hn => ?_⟩
    have hcell := hc x rfl
    obtain ⟨b, off, spot⟩ := x
    have hspot : spot = none := by simpa [Addr.add] using World.cell?_spot (hcell 0 (by omega))
    subst hspot
    exact ⟨b, off, rfl, fun i hi => by rw [← add_plain]; exact hcell i (by omega)⟩

/-- What the reading of a slice of ints gives. -/
theorem ints_read {H : Type} {enc : TypeId × Value → H} {W : World} {a : Option Addr} {len cap : Nat} {d : DataW H} {p : List MemPlace} (h : DataW.Trod enc Try.prog W 0 (fun _ => true) true 34 (.slice a len cap) d p) :
    len ≤ maxLen ∧ ∃ z, IntsIs W a len cap z := by
  obtain ⟨fuel, hf⟩ := h
  rcases open_ints Try.underlying34 Try.underlying3 cells3 hf with ⟨hcs, _⟩ | ⟨x, l, c, zs, hcs, _, hl, hm, hz, _, hcell, hwz⟩
  · simp [Value.cells] at hcs
    obtain ⟨rfl, rfl, rfl⟩ := hcs
    exact ⟨Nat.zero_le _, fun _ => 0, .inl ⟨rfl, rfl, rfl⟩⟩
  · simp [Value.cells] at hcs
    obtain ⟨rfl, rfl, rfl⟩ := hcs
    have hz' : zs.length = cap := by simpa using hz
    exact ⟨by omega, _, ints_of hl hz' (fun e => by cases e) (fun x e i hi => by cases e; exact hcell i (by omega))⟩
/-- What the reading of a slice of slices of ints gives. -/
theorem rows_read {H : Type} {enc : TypeId × Value → H} {W : World} {a : Option Addr} {len cap : Nat} {d : DataW H} {p : List MemPlace} (h : DataW.Trod enc Try.prog W 0 (fun _ => true) true 32 (.slice a len cap) d p) :
    len ≤ maxLen ∧ ∃ aI nI cI zI, Ints2Is W a len cap aI nI cI zI ∧ ∀ i, i < len → nI i ≤ maxLen := by
  obtain ⟨fuel, hf⟩ := h
  rcases Go.Deep.open_int_rows Try.underlying32 Try.underlying34 Try.underlying3 cells34 cells3 hf with ⟨hcs, _⟩ | ⟨x, l, c, A, L, C, Z, hcs, _, hl, hm, _, hr⟩
  · simp [Value.cells] at hcs
    obtain ⟨rfl, rfl, rfl⟩ := hcs
    exact ⟨Nat.zero_le _, fun _ => none, fun _ => 0, fun _ => 0, fun _ _ => 0, .inl ⟨rfl, rfl, rfl⟩, fun i hi => by omega⟩
  · simp [Value.cells] at hcs
    obtain ⟨rfl, rfl, rfl⟩ := hcs
    refine ⟨by omega, A, L, C, fun r i => (Z r).getD i 0, .inr ⟨x, rfl, fun hn => ?_⟩, fun i hi => by have := hr i (by omega); omega⟩
    have h0 := (hr 0 (by omega)).1
    obtain ⟨b, off, spot⟩ := x
    have hspot : spot = none := by simpa [Addr.add] using World.cell?_spot h0
    subst hspot
    refine ⟨b, off, rfl, fun i hi => ?_⟩
    obtain ⟨q1, q2, q3, q4, _, q6, q7⟩ := hr i (by omega)
    refine ⟨by rw [← add_plain]; exact q1, ints_of q2 q4 (fun e => ?_) (fun x e j hj => (q7 x e).2 j hj)⟩
    have := q6 e
    omega

set_option maxRecDepth 100000 in
theorem lifted (os : Os) (started : os.Started) (H : Type) (enc : TypeId × Value → H) :
    ReturnsInHanded {} Try.checked os 6 .any (Rows.fnRelistedExactSpec.pre6 enc Try.prog Try.f6 Rows.fnRelistedExactRow.domain false) (Rows.fnRelistedExactSpec.post enc Try.prog Try.f6 false true false false) := by
  refine returnsInHanded_of_change (C := Try.checked) own started (by kernel_rfl) Try.func6
    (ChangeSpec.witness6 (enc := enc) (C := Try.checked) false ⟨#[], #[.bool false, .slice none 0 0, .slice none 0 0, .bool false, .slice none 0 0], []⟩ 8 (by kernel_rfl) (by kernel_rfl) (by kernel_rfl) (by kernel_rfl)) ?_
  intro W base args ds gs before hval0 hW hcnd _
  have hval : ∀ (j : Nat) t v, Try.f6.params[j]? = some t → args[j]? = some v → Value.okWide Try.prog W .any base t v := hval0
  have hW' := hW
  obtain ⟨p, q, hA0, hV, rfl, hfz, hnd⟩ := hW
  have hA : DataW.TrodAll enc Try.prog W 0 (fun _ => true) true Try.f6.params.toList args.toList ds p := hA0
  rw [Try.params6] at hA hval
  obtain ⟨v0, vs0, d0, ds0, p0, q0, hargs, rfl, rfl, h0, r0⟩ := trodAll_cons hA
  obtain ⟨v1, vs1, d1, ds1, p1, q1, rfl, rfl, rfl, h1, r1⟩ := trodAll_cons r0
  obtain ⟨v2, vs2, d2, ds2, p2, q2, rfl, rfl, rfl, h2, r2⟩ := trodAll_cons r1
  obtain ⟨v3, vs3, d3, ds3, p3, q3, rfl, rfl, rfl, h3, r3⟩ := trodAll_cons r2
  obtain ⟨v4, vs4, d4, ds4, p4, q4, rfl, rfl, rfl, h4, r4⟩ := trodAll_cons r3
  obtain ⟨rfl, rfl, rfl⟩ := trodAll_nil r4
  obtain rfl : args = #[v0, v1, v2, v3, v4] := by cases args; simp_all
  obtain ⟨rfl, rfl⟩ := trodVars_none hV
  obtain ⟨x0, rfl, rfl, rfl⟩ := open_bool Try.underlying4 (hval 0 4 v0 rfl rfl) h0
  obtain ⟨a1, len1, cap1, rfl⟩ := okWide_slice Try.underlying34 (hval 1 34 v1 rfl rfl)
  obtain ⟨a2, len2, cap2, rfl⟩ := okWide_slice Try.underlying32 (hval 2 32 v2 rfl rfl)
  obtain ⟨x3, rfl, rfl, rfl⟩ := open_bool Try.underlying4 (hval 3 4 v3 rfl rfl) h3
  obtain ⟨a4, len4, cap4, rfl⟩ := okWide_slice Try.underlying34 (hval 4 34 v4 rfl rfl)
  have lt1 : ∀ x ∈ p1, x.block < W.heap.size := by obtain ⟨m, hm⟩ := h1; exact DataW.trod_lt m _ _ _ hm
  have lt2 : ∀ x ∈ p2, x.block < W.heap.size := by obtain ⟨m, hm⟩ := h2; exact DataW.trod_lt m _ _ _ hm
  have lt4 : ∀ x ∈ p4, x.block < W.heap.size := by obtain ⟨m, hm⟩ := h4; exact DataW.trod_lt m _ _ _ hm
  obtain ⟨b1, z1, i1⟩ := ints_read h1
  obtain ⟨b2, aI, nI, cI, zI, i2, b2'⟩ := rows_read h2
  obtain ⟨b4, z4, i4⟩ := ints_read h4
  clear hA0 hval0
  refine (ex_walk x0 x3 a1 a2 a4 len1 cap1 len2 cap2 len4 cap4 z1 z4 aI nI cI zI W b1 b2 b4 b2' i1 i2 i4).mono fun e W' ⟨he, bel⟩ => ?_
  subst he
  exact ⟨_, rfl, _, _, _, [], _, [], hW', trodAll_mk1 (shut_bool Try.underlying4 _),
    (trodAll_cons_mk (shut_bool Try.underlying4 _) (trodAll_cons_mk (Below.trod laidOut (by kernel_rfl) (of_decide_eq_true (by kernel_rfl)) h1 bel lt1) (trodAll_cons_mk (Below.trod laidOut (by kernel_rfl) (of_decide_eq_true (by kernel_rfl)) h2 bel lt2)
      (trodAll_cons_mk (shut_bool Try.underlying4 _) (trodAll_cons_mk (Below.trod laidOut (by kernel_rfl) (of_decide_eq_true (by kernel_rfl)) h4 bel lt4) trodAll_mk0))))), rfl, bel.frame _, fun h => by cases h⟩

theorem over : Rows.fnRelistedExactRow.holds Try.pinned (OpenSpec.ofChange Rows.fnRelistedExactSpec) :=
  OpenClaim.holds_of_wide 6 Try.f6 rfl rfl rfl rfl rfl rfl rfl ⟨rfl, rfl, rfl, rfl, rfl⟩ rfl rfl rfl rfl rfl (by kernel_rfl) Try.func6 (by kernel_rfl)
    (of_decide_eq_true (by kernel_rfl)) (by unfold Func.isWrapper; first | (rw [if_pos (by decide +kernel)]; kernel_rfl) | (rw [if_neg (by decide +kernel)]; exact ⟨rfl, rfl⟩))
    (fun os started H enc _ => lifted os started H enc)

/-- THE STATEMENT -/
theorem proved : Rows.FnRelistedExactSaid := over
#print axioms proved
end Go.Proofs.Qxb6600323a.fnRelistedExact
