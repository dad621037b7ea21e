/-
  THE SHELL OF A PROOF OF 'Rows.FnPrivateUseRoundTripSaid' ('example.com/vestbook/vestbook/zzlaws_pkg_sheet_b1.FnPrivateUseRoundTrip'), the frame written by the kit's skeleton program; the walk typed by hand.
-/
import Derived.Test.Qxb6000066aRows
import Derived.WalkKit
import Derived.ProofKit
import Derived.OpenShut
import Derived.ShutString
import Derived.Test.Qxb6000066aWalkC
namespace Go.Proofs.Qxb6000066a.fnPrivateUseRoundTrip
open Go.ChangeShapes Go.WideShapes Go.ChangeAt Go.RowKit
open Go.ChangeMaps (open_string shut_string)
set_option linter.unusedVariables false      -- a walk need not use every 'w<i>' (that an integer argument fits its kind)

theorem own : ownKnob Try.prog.godebug = none := by kernel_rfl

theorem grown_drewN {a w : World} (h : Grown a w) : ∀ n : Nat, Grown a (w.drewN n)
  | 0 => h
  | n + 1 => Grown.drew (grown_drewN h n)

/-! ### STEP 1: THE WALK: the Go text returns true. 'Grown w w'': the world has at most new blocks (Derived/RowKit3.lean). Part the cases AHEAD of 'go_enter' where a test parts the walk; take each callee by a contract of your own. -/
theorem walk (a0 : Int) (w0 : (Lit.int .i32 a0).wf = true) (w : World) :
    Calls Try.prog 6 #[.int .i32 a0] w fun e w' => e = .returned (.bool true) ∧ Grown w w' := by
  by_cases h0 : a0 < 57344
  · go_enter Try.func6, Try.ntmps6
    go_wp2
    go_ret
    exact ⟨rfl, Grown.refl _⟩
  by_cases h1 : 59237 < a0
  · go_enter Try.func6, Try.ntmps6
    go_wp2
    go_ret
    exact ⟨rfl, Grown.refl _⟩
  go_enter Try.func6, Try.ntmps6
  go_wp2_with fail
  refine (enc_any a0 _ (by omega) (by omega)).mono ?_
  rintro e w' ⟨f, s, rfl, ⟨g1, g2, g3, g4, g5, g6⟩, rfl⟩
  have H6 : Hid (pu f s = (a0, true)) := g6
  have ht : twoB f s = true := by
    have e1 : leadC f = 1 := by unfold leadC; rw [if_neg (by omega), if_neg (by omega)]
    have e2 : trailB s = true := by unfold trailB; exact decide_eq_true (by omega)
    simp [twoB, e1, e2]
  clear g6
  go_wp2_with (go_at_call 11; refine (two_any _ _ _).mono ?_; rintro e w' ⟨rfl, rfl⟩)
  have c0 : (w.alloc (Obj.cells #[Value.int IntKind.u8 f, Value.int IntKind.u8 s] 5)).cell? ⟨w.heap.size, 0, none⟩ = some (.int .u8 f) := by simp
  have c1 : (w.alloc (Obj.cells #[Value.int IntKind.u8 f, Value.int IntKind.u8 s] 5)).cell? ⟨w.heap.size, 0 + 1, none⟩ = some (.int .u8 s) := by simp
  refine (zlen_two _ 0 2 f s _ g1 g2 g3 g4 g5 c0 c1).mono ?_
  rintro e w' ⟨rfl, rfl⟩
  go_wp2_with fail
  refine (zpu_any _ 0 2 f s _ (by omega) (by omega) (by omega) (by omega) c0 c1).mono ?_
  rintro e w' ⟨rfl, n, rfl⟩
  rw [H6.out]
  go_wp2
  go_ret
  exact ⟨rfl, grown_drewN (Grown.alloc (Grown.refl _) _ _) n⟩

/-! ### THE ROW's STEP: WRITTEN OUT: LEAVE IT -/
set_option maxRecDepth 100000 in
theorem lifted (os : Os) (started : os.Started) (H : Type) (enc : TypeId × Value → H) :
    ReturnsInHanded {} Try.checked os 6 .any (Rows.fnPrivateUseRoundTripSpec.pre6 enc Try.prog Try.f6 Rows.fnPrivateUseRoundTripRow.domain false) (Rows.fnPrivateUseRoundTripSpec.post enc Try.prog Try.f6 false true false false) := by
  refine returnsInHanded_of_change (C := Try.checked) own started (by kernel_rfl) Try.func6
    (ChangeSpec.witness6 (enc := enc) (C := Try.checked) false ⟨#[], #[.int .i32 0], []⟩ 8 (by kernel_rfl) (by kernel_rfl) (by kernel_rfl) (by kernel_rfl)) ?_
  intro W base args ds gs before hval0 hW hcnd _
  have hval : ∀ (j : Nat) t v, Try.f6.params[j]? = some t → args[j]? = some v → Value.okWide Try.prog W .any base t v := hval0
  have hW' := hW
  obtain ⟨p, q, hA0, hV, rfl, hfz, hnd⟩ := hW
  have hA : DataW.TrodAll enc Try.prog W 0 (fun _ => true) true Try.f6.params.toList args.toList ds p := hA0
  rw [Try.params6] at hA hval
  obtain ⟨v0, vs0, d0, ds0, p0, q0, hargs, rfl, rfl, h0, r0⟩ := trodAll_cons hA
  obtain ⟨rfl, rfl, rfl⟩ := trodAll_nil r0
  obtain rfl : args = #[v0] := by cases args; simp_all
  obtain ⟨rfl, rfl⟩ := trodVars_none hV
  obtain ⟨a0, rfl, rfl, rfl, w0⟩ := open_int Try.underlying21 (hval 0 21 v0 rfl rfl) h0
  clear hA0 hval0
  simp only [List.append_nil] at hW'
  refine (walk a0 w0 W).mono fun e W' ⟨he, hg⟩ => ?_
  subst he
  exact ⟨_, rfl, post_of_same (pa := []) (pv := []) hW' (fun _ _ _ => (trodAll_cons_mk (shut_bool Try.underlying4 _) trodAll_mk0)) (fun sp _ => (trodAll_cons_mk (shut_int Try.underlying21 w0) trodAll_mk0)) (fun _ _ => rfl) rfl
    (hg.frame _) hg.2.1 (ok_one (by kernel_rfl) rfl (okWide_bool_mk Try.underlying4 _))⟩

theorem over : Rows.fnPrivateUseRoundTripRow.holds Try.pinned (OpenSpec.ofChange Rows.fnPrivateUseRoundTripSpec) :=
  OpenClaim.holds_of_wide 6 Try.f6 rfl rfl rfl rfl rfl rfl rfl ⟨rfl, rfl, rfl, rfl, rfl⟩ rfl rfl rfl rfl rfl (by kernel_rfl) Try.func6 (by kernel_rfl)
    (of_decide_eq_true (by kernel_rfl)) (by unfold Func.isWrapper; first | (rw [if_pos (by decide +kernel)]; kernel_rfl) | (rw [if_neg (by decide +kernel)]; exact ⟨rfl, rfl⟩))
    (fun os started H enc _ => lifted os started H enc)

/-- ████ THE STATEMENT ████ -/
theorem proved : Rows.FnPrivateUseRoundTripSaid :=
  over
#print axioms proved
end Go.Proofs.Qxb6000066a.fnPrivateUseRoundTrip
