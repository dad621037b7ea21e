import Derived.Test.Qxb6000066aWalkF
import Derived.WalkSmall
namespace Go.Proofs.Qxb6000066a
open Go.RowKit

theorem table_long (a : Option Addr) (n c : Nat) (w : World) (hn : n ≤ maxLen) (h : ¬ n ≤ 1048576) :
    Calls Try.prog 4 #[.slice a n c] w fun e w' => e = .returned (.bool true) ∧ Below w.heap.size w w' := by
  have hd : decide (n ≤ 1048576) = false := decide_eq_false h
  have hb := fun w => bytes_any a n c w hn
  rw [hd] at hb
  have HB := (id hb : Hid _)
  clear hb hd
  go_enter Try.func4, Try.ntmps4
  go_wp2_with fail
  refine (HB.out _).mono ?_
  rintro e w' ⟨rfl, rfl⟩
  go_wp2
  go_ret
  exact ⟨rfl, Below.refl _ _⟩

theorem table_nil (w : World) :
    Calls Try.prog 4 #[.slice none 0 0] w fun e w' => e = .returned (.bool true) ∧ Below w.heap.size w w' := by
  have hb := fun w => bytes_any none 0 0 w (by unfold maxLen; omega)
  have hd : (decide ((0 : Nat) ≤ 1048576)) = true := by decide
  rw [hd] at hb
  have HB := (id hb : Hid _)
  clear hb hd
  go_enter Try.func4, Try.ntmps4
  go_wp2_with fail
  refine (HB.out _).mono ?_
  rintro e w' ⟨rfl, rfl⟩
  go_wp2_with fail
  go_quiet (fail)
  go_wp2_with fail
  refine (clone_nil 0 0 _).mono ?_
  rintro e w' ⟨rfl, rfl⟩
  go_wp2_with fail
  refine (zpu_no none 0 0 _ (by omega)).mono ?_
  rintro e w' ⟨rfl, rfl⟩
  go_wp2
  go_ret
  exact ⟨rfl, below_drewN (Below.refl _ _) _⟩

theorem table_other (x : Addr) (n c : Nat) (z : Nat → Int) (w : World) (hn : n ≤ 1048576) (h2 : n ≠ 2)
    (hs : 0 < n → ∃ b off, x = ⟨b, off, none⟩ ∧ b < w.heap.size ∧ ∀ i, i < n → w.cell? ⟨b, off + i, none⟩ = some (.int .u8 (z i))) :
    Calls Try.prog 4 #[.slice (some x) n c] w fun e w' => e = .returned (.bool true) ∧ Below w.heap.size w w' := by
  have hb := fun w => bytes_any (some x) n c w (by unfold maxLen; omega)
  have hd : (decide (n ≤ 1048576)) = true := decide_eq_true hn
  rw [hd] at hb
  have HB := (id hb : Hid _)
  clear hb hd
  have HC := fun k => (id (clone_some x n c z (w.drewN k) hn hs) : Hid (Calls _ _ _ _ _))
  clear hs
  have e2 : ((n : Int) == 2) = false := by rw [beq_eq_false_iff_ne]; omega
  have e3 : ((n : Int) != 2) = true := by rw [bne_iff_ne]; omega
  go_enter Try.func4, Try.ntmps4
  go_wp2_with fail
  refine (HB.out _).mono ?_
  rintro e w' ⟨rfl, rfl⟩
  go_wp2_with fail
  go_quiet (fail)
  go_wp2_with fail
  refine (HC _).out.mono ?_
  rintro e w1 ⟨rfl, hbel, _⟩
  go_wp2_with fail
  refine (zpu_no _ n n _ h2).mono ?_
  rintro e w2 ⟨rfl, rfl⟩
  go_wp2
  go_ret
  exact ⟨rfl, (below_drewN (Below.refl _ _) _).trans hbel⟩

theorem table_two (b off c : Nat) (f s : Int) (w : World) (hb : b < w.heap.size) (f0 : 0 ≤ f) (f1 : f ≤ 255) (s0 : 0 ≤ s) (s1 : s ≤ 255)
    (h0 : w.cell? ⟨b, off, none⟩ = some (.int .u8 f)) (h1 : w.cell? ⟨b, off + 1, none⟩ = some (.int .u8 s)) :
    Calls Try.prog 4 #[.slice (some ⟨b, off, none⟩) 2 c] w fun e w' => e = .returned (.bool true) ∧ Below w.heap.size w w' := by
  have hby := fun w => bytes_any (some ⟨b, off, none⟩) 2 c w (by unfold maxLen; omega)
  have hd : (decide (2 ≤ 1048576)) = true := by decide
  rw [hd] at hby
  have HB := (id hby : Hid _)
  clear hby hd
  have hcl := fun k => clone_some ⟨b, off, none⟩ 2 c (fun i => if i = 0 then f else s) (w.drewN k) (by omega) (fun _ => ⟨b, off, rfl, hb, fun i hi => by
    match i, hi with
    | 0, _ => simpa using h0
    | 1, _ => simpa using h1⟩)
  have HC := fun k => (id (hcl k) : Hid (Calls _ _ _ _ _))
  clear hcl
  cases ht : twoB f s with
  | false =>
    have HT : Hid (twoB f s = false) := ht
    clear ht
    go_enter Try.func4, Try.ntmps4
    go_wp2_with fail
    refine (HB.out _).mono ?_
    rintro e w' ⟨rfl, rfl⟩
    go_wp2_with fail
    go_quiet ((go_at_call 11; exact Calls.quiet_of_same (two_any _ _ _)))
    rw [HT.out]
    go_wp2
    go_ret
    exact ⟨rfl, below_drewN (Below.refl _ _) _⟩
  | true =>
    have HP : Hid (pu f s = pua f s) := pu_pua f s f1 s1 ht
    have HT : Hid (twoB f s = true) := ht
    clear ht
    go_enter Try.func4, Try.ntmps4
    go_wp2_with fail
    refine (HB.out _).mono ?_
    rintro e w' ⟨rfl, rfl⟩
    go_wp2_with fail
    go_quiet ((go_at_call 11; exact Calls.quiet_of_same (two_any _ _ _)))
    rw [HT.out]
    go_wp2_with fail
    refine (HC _).out.mono ?_
    rintro e w1 ⟨rfl, hbel, hrow⟩
    have k0 := hrow.cell (i := 0) (by omega)
    have k1 := hrow.cell (i := 0 + 1) (by omega)
    simp only [if_true, Nat.zero_add, Nat.one_ne_zero, if_false, World.heap_drewN] at k0 k1
    go_wp2_with fail
    refine (zpu_any _ 0 2 f s _ f0 f1 s0 s1 k0 k1).mono ?_
    rintro e w2 ⟨rfl, n2, hw2⟩
    have m0 : w2.cell? ⟨w'.heap.size, 0, none⟩ = some (.int .u8 f) := by rw [hw2]; exact k0
    have m1 : w2.cell? ⟨w'.heap.size, 1, none⟩ = some (.int .u8 s) := by rw [hw2]; exact k1
    have hbel2 : Below w'.heap.size w' w2 := by rw [hw2]; exact below_drewN ((below_drewN (Below.refl _ _) _).trans hbel) _
    clear hw2 k0 k1 hrow hbel
    rw [HP.out]
    obtain ⟨pr, hpr⟩ : ∃ p, p = pua f s := ⟨_, rfl⟩
    have HR : ∀ w, Hid (Calls Try.prog 13 #[.int .u8 f, .int .u8 s] w fun e w' => e = .returned (.tuple #[.int .i32 pr.1, .bool pr.2]) ∧ w' = w) := by
      intro w
      rw [hpr]
      exact pua_any f s w f0 f1 s0 s1
    rw [← hpr]
    clear hpr HP
    go_wp2_with fail
    go_quiet ((go_at_call 13; exact Calls.quiet_of_same (HR _).out))
    go_wp2
    go_ret
    exact ⟨by simp, below_drewN hbel2 _⟩
end Go.Proofs.Qxb6000066a
