import Derived.Test.Qxb6600323aRelA
import Derived.LaidEqlPtr
import Derived.Deep.RegionWith
namespace Go.Proofs.Qxb6600323a
open Go.RowKit

/-- What n.listed() gives. -/
def Lists (w : World) (nb : Nat) (a : Option Addr) (n c : Nat) : Prop :=
  (w.cell? ⟨nb, 1, none⟩ = some (.pointer none) ∧ a = none ∧ n = 0 ∧ c = 0) ∨ ∃ lb, w.cell? ⟨nb, 1, none⟩ = some (.pointer (some ⟨lb, 0, none⟩)) ∧ w.cell? ⟨lb, 1, none⟩ = some (.slice a n c)
theorem Lists.drewN {w : World} {nb n c : Nat} {a : Option Addr} (h : Lists w nb a n c) (k : Nat) : Lists (w.drewN k) nb a n c := h
theorem Lists.alloc {w : World} {nb n c : Nat} {a : Option Addr} (h : Lists w nb a n c) (o : Obj) : Lists (w.alloc o) nb a n c := by
  have h1 : ∀ x v, w.cell? x = some v → (w.alloc o).cell? x = some v := fun x v hx => by rw [World.cell?_alloc_lt _ _ _ (World.block_lt_of_cell? w _ hx)]; exact hx
  rcases h with ⟨q, r⟩ | ⟨lb, q, r⟩
  · exact .inl ⟨h1 _ _ q, r⟩
  · exact .inr ⟨lb, h1 _ _ q, h1 _ _ r⟩
theorem listed_any (nb n c : Nat) (a : Option Addr) (w : World) (h : Lists w nb a n c) :
    Calls Try.prog 41 #[.pointer (some ⟨nb, 0, none⟩)] w fun e w' => e = .returned (.slice a n c) ∧ w' = w := by
  rcases h with ⟨h1, rfl, rfl, rfl⟩ | ⟨lb, h1, h2⟩
  · go_enter Try.func41, Try.ntmps41
    go_wp2
    go_ret
    exact ⟨rfl, rfl⟩
  · go_enter Try.func41, Try.ntmps41
    go_wp2
    go_ret
    exact ⟨rfl, rfl⟩

theorem Try.size65 : (Try.prog.info? 65).map (fun i => i.size) = some 6 := by kernel_rfl
/-- Two pointers to sections. -/
theorem eql_secs {w : World} {m : Nat} {g : Int → Option Nat} (h : Reg w m g) {i j : Int} {b b' : Nat} (hi : g i = some b) (hj : g j = some b') :
    (binOp .eql 59 (.pointer (some ⟨b, 0, none⟩)) (.pointer (some ⟨b', 0, none⟩))).run Try.prog w = .ok (.bool (decide (i = j))) w := by
  obtain ⟨ii, hii, h6⟩ := Option.map_eq_some_iff.1 Try.size65
  by_cases e : i = j
  · subst e
    rw [hi] at hj
    cases hj
    rw [decide_eq_true rfl]
    exact run_eql_ptr_same w _ Try.underlying59 hii
  · rw [decide_eq_false e]
    obtain ⟨c1, q1, _⟩ := h.2 i b hi
    obtain ⟨c2, q2, _⟩ := h.2 j b' hj
    have hz : ii.size ≠ 0 := by omega
    exact run_eql_ptr_other w Try.underlying59 hii hz (fun q => e (h.inj hi (by simp at q; rw [q]; exact hj))) q1 q2

theorem rel_cell (w : World) (k : Nat) (v : Value) : (((w.alloc (Obj.cells #[Value.slice none 0 0, Value.slice none 0 0, Value.slice none 0 0, Value.map none, Value.int IntKind.i64 0, Value.bool false] 65)).drewN k).setCell ⟨w.heap.size, 0, none⟩ v).cell? ⟨w.heap.size, 0, none⟩ = some v :=
  World.cell?_setCell_same _ _ _ (u := .slice none 0 0) (by simp)

set_option maxRecDepth 100000 in
set_option maxHeartbeats 1000000 in
theorem rel_listed (nb fb L nL nW cW WB m : Nat) (aW : Option Addr) (zL zW : Nat → Int) (g : Int → Option Nat) (w : World) (hnL : nL ≤ 1048576) (hnW : nW ≤ 1048576)
    (h1 : Lists w nb (some ⟨L, 0, none⟩) nL nL) (hfrom : w.cell? ⟨nb, 14, none⟩ = some (.pointer (some ⟨fb, 0, none⟩))) (h2 : Lists w fb aW nW cW) (hW : 0 < nW → aW = some ⟨WB, 0, none⟩)
    (rL : w.rowIs L 59 nL (ptrs g zL)) (rW : 0 < nW → w.rowIs WB 59 nW (ptrs g zW)) (hL : Has g nL zL) (hWH : Has g nW zW) (hreg : Reg w m g) :
    Calls Try.prog 39 #[.pointer (some ⟨nb, 0, none⟩)] w fun e w' => e = .returned (.pointer (some ⟨w.heap.size, 0, none⟩)) ∧ Below w.heap.size w w' ∧
      ∃ s a c, s ≤ nL ∧ s ≤ nW ∧ (∀ i, i < s → zL i = zW i) ∧ (s = nL ∨ s = nW ∨ zL s ≠ zW s) ∧ w'.cell? ⟨w.heap.size, 0, none⟩ = some (.slice a (nL - s) c) ∧ (s < nL → a = some ⟨L, s, none⟩) := by
  have hlnb : nb < w.heap.size := World.block_lt_of_cell? w _ hfrom
  have H1 : ∀ o k, Hid (Lists ((w.alloc o).drewN k) nb (some ⟨L, 0, none⟩) nL nL) := fun o k => (h1.alloc o).drewN k
  have H2 : ∀ o k, Hid (Lists ((w.alloc o).drewN k) fb aW nW cW) := fun o k => (h2.alloc o).drewN k
  have hq := fun (w : World) => run_neq_slice_nil_any (P := Try.prog) w 60 59 (some ⟨L, 0, none⟩) nL nL 0 0 Try.underlying60
  clear h1 h2
  go_enter Try.func39, Try.ntmps39
  go_wp2_with fail
  go_quiet ((first | (go_at_call_of 41 (Value.pointer (some (Addr.mk nb 0 none))); exact Calls.quiet_of_same (listed_any nb nL nL (some ⟨L, 0, none⟩) _ (H1 _ _).out)) | (go_at_call_of 41 (Value.pointer (some (Addr.mk fb 0 none))); exact Calls.quiet_of_same (listed_any fb nW cW aW _ (H2 _ _).out))))
  go_wp2_with fail
  have hlL := rL.lt
  go_loopw [6] (fun i wr => ∃ s k : Nat, s ≤ nL ∧ s ≤ nW ∧ i = .int .i64 s ∧ Hid (∀ i, i < s → zL i = zW i) ∧ (w.alloc (Obj.cells #[Value.slice none 0 0, Value.slice none 0 0, Value.slice none 0 0, Value.map none, Value.int IntKind.i64 0, Value.bool false] 65)).drewN k = wr) (fun i _ => nL - (intOf i).toNat)
  case atStart => exact ⟨0, _, by omega, by omega, rfl, fun i hi => by omega, rfl⟩
  case round =>
    obtain ⟨s, k, hs1, hs2, rfl, hsame, rfl⟩ := hrel
    by_cases hlt1 : s < nL
    · by_cases hlt2 : s < nW
      · obtain ⟨bl, hbl⟩ := hL s hlt1
        obtain ⟨bw, hbw⟩ := hWH s hlt2
        have rW' := rW (by omega)
        have hlW := rW'.lt
        obtain rfl := hW (by omega)
        have c1 : w.cell? ⟨L, s, none⟩ = some (.pointer (some ⟨bl, 0, none⟩)) := by rw [rL.cell hlt1]; simp [ptrs, hbl, ptr]
        have c2 : w.cell? ⟨WB, s, none⟩ = some (.pointer (some ⟨bw, 0, none⟩)) := by rw [rW'.cell hlt2]; simp [ptrs, hbw, ptr]
        have heq := fun k => eql_secs (w := (w.alloc (Obj.cells #[Value.slice none 0 0, Value.slice none 0 0, Value.slice none 0 0, Value.map none, Value.int IntKind.i64 0, Value.bool false] 65)).drewN k) (hreg.alloc _) hbl hbw
        by_cases he : zL s = zW s
        · rw [decide_eq_true he] at heq
          have HS : Hid (∀ i, i < s + 1 → zL i = zW i) := fun i hi => by
            by_cases e : i = s
            · subst e; exact he
            · exact hsame.out i (by omega)
          clear he hbl hbw
          go_wp2_with fail
          go_quiet (fail)
          go_wp2_with fail
          go_roundw
          case rel => exact ⟨s + 1, _, by omega, by omega, by go_num, HS, rfl⟩
          case measure => simp [intOf]; omega
        · rw [decide_eq_false he] at heq
          have HE : Hid (zL s ≠ zW s) := he
          clear he hbl hbw
          go_wp2_with fail
          go_quiet (fail)
          go_wp2_with fail
          go_ret
          refine ⟨rfl, (below_drewN ((Below.refl _ _).alloc (Nat.le_refl _) _) _).setCell (Nat.le_refl _) _, s, _, _, hs1, hs2, hsame, .inr (.inr HE), rel_cell w _ _, fun _ => rfl⟩
      · obtain rfl : s = nW := by omega
        have hd : decide ((s : Int) < (s : Int)) = false := decide_eq_false (by omega)
        go_wp2_with fail
        go_quiet (fail)
        go_wp2_with fail
        go_ret
        refine ⟨rfl, (below_drewN ((Below.refl _ _).alloc (Nat.le_refl _) _) _).setCell (Nat.le_refl _) _, s, _, _, hs1, hs2, hsame, .inr (.inl rfl), rel_cell w _ _, fun _ => rfl⟩
    · obtain rfl : s = nL := by omega
      have hd : decide ((s : Int) < (s : Int)) = false := decide_eq_false (by omega)
      go_wp2_with fail
      go_quiet (fail)
      go_wp2_with fail
      go_ret
      refine ⟨rfl, (below_drewN ((Below.refl _ _).alloc (Nat.le_refl _) _) _).setCell (Nat.le_refl _) _, s, some ⟨L, 0, none⟩, 0, hs1, hs2, hsame, .inl rfl, ?_, fun h => absurd h (Nat.lt_irrefl _)⟩
      rw [Nat.sub_self]
      exact rel_cell w _ _
end Go.Proofs.Qxb6600323a
