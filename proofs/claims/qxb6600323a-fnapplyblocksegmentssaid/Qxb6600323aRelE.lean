import Derived.Test.Qxb6600323aRelD
namespace Go.Proofs.Qxb6600323a
open Go.RowKit
set_option linter.unusedVariables false

/-- What relisted answers, in ids. -/
def Res (A : Ask) (nW : Nat) (zW : Nat → Int) (out : List Int) : Prop :=
  (A.has = false → out = []) ∧ (A.has = true → A.lnil = true → out = flat A.nI A.zI A.nS) ∧
  (A.has = true → A.lnil = false → ∃ s, s ≤ A.nL ∧ s ≤ nW ∧ (∀ i, i < s → A.zL i = zW i) ∧ (s = A.nL ∨ s = nW ∨ A.zL s ≠ zW s) ∧ out = (List.range (A.nL - s)).map (fun i => A.zL (s + i)))
/-- The sections that came out. -/
def OutIs (w : World) (g : Int → Option Nat) (a : Option Addr) (out : List Int) : Prop :=
  0 < out.length → ∃ b off, a = some ⟨b, off, none⟩ ∧ ∀ i id, out[i]? = some id → ∃ blk, g id = some blk ∧ w.cell? ⟨b, off + i, none⟩ = some (.pointer (some ⟨blk, 0, none⟩))

theorem flat_has {g : Int → Option Nat} {nI : Nat → Nat} {zI : Nat → Nat → Int} : ∀ {k : Nat}, (∀ i, i < k → Has g (nI i) (zI i)) → ∀ id ∈ flat nI zI k, ∃ b, g id = some b
  | 0, _, id, h => by simp [flat] at h
  | k + 1, hh, id, h => by
    simp only [flat, List.mem_append, List.mem_map, List.mem_range] at h
    rcases h with h | ⟨i, hi, rfl⟩
    · exact flat_has (fun i hi => hh i (by omega)) id h
    · exact hh k (by omega) i hi

theorem rel_any (nb fb nW cW m : Nat) (aW : Option Addr) (zW : Nat → Int) (g : Int → Option Nat) (A : Ask) (o : Option Nat) (w : World) (hnL : A.nL ≤ 1048576) (hnW : nW ≤ 1048576) (hnS : A.nS ≤ 1048576) (htot : (flat A.nI A.zI A.nS).length ≤ 1048576)
    (hn : w.rowIs nb 91 17 (nodeF o (some fb))) (hb : NBases w g A o) (h2 : Lists w fb aW nW cW) (hW : ListingIs w g aW nW cW zW) (hWH : Has g nW zW) (hreg : Reg w m g) :
    Calls Try.prog 39 #[.pointer (some ⟨nb, 0, none⟩)] w fun e w' => e = .returned (.pointer (some ⟨w.heap.size, 0, none⟩)) ∧ Below w.heap.size w w' ∧
      ∃ out a c, Res A nW zW out ∧ w'.cell? ⟨w.heap.size, 0, none⟩ = some (.slice a out.length c) ∧ OutIs w' g a out ∧ out.length ≤ 1048576 := by
  have hfrom : w.cell? ⟨nb, 14, none⟩ = some (.pointer (some ⟨fb, 0, none⟩)) := hn.cell (i := 14) (by omega)
  have hbs : w.cell? ⟨nb, 1, none⟩ = some (ptrO o) := hn.cell (i := 1) (by omega)
  cases o with
  | none =>
    refine (rel_none nb fb nW cW aW w hbs hfrom h2).mono ?_
    rintro e w' ⟨rfl, h3, h4⟩
    refine ⟨rfl, h3, [], none, 0, ⟨fun _ => rfl, fun q => ?_, fun q => ?_⟩, h4, fun q => by simp at q, by simp⟩
    · rw [show A.has = false from hb] at q; cases q
    · rw [show A.has = false from hb] at q; cases q
  | some lb =>
    obtain ⟨h0, aL, cL, aS, cS, S, aI, cI, r1, r2, r3, r4, r5, r6⟩ := hb
    have hl1 : w.cell? ⟨lb, 1, none⟩ = some (.slice aL A.nL cL) := r1.cell (i := 1) (by omega)
    have hl2 : w.cell? ⟨lb, 2, none⟩ = some (.slice aS A.nS cS) := r1.cell (i := 2) (by omega)
    rcases r2 with ⟨rfl, q2, rfl⟩ | ⟨L, rfl, rfl, rL⟩
    · rw [q2] at hl1
      refine (rel_listings nb fb lb A.nS cS S nW cW aS aW aI A.nI cI A.zI g w hnS htot hbs hl1 hl2 r5 (fun i hi => (r6 i hi).1) hfrom h2).mono ?_
      rintro e w' ⟨rfl, h3, v, h4, h5⟩
      have hv : ∃ a c, v = .slice a (flat A.nI A.zI A.nS).length c := by
        rcases h5.2 with ⟨rfl, q⟩ | ⟨gb, cap, _, rfl, _⟩
        · exact ⟨none, 0, by rw [q]⟩
        · exact ⟨_, _, rfl⟩
      obtain ⟨a, c, rfl⟩ := hv
      refine ⟨rfl, h3, _, a, c, ⟨(fun q => by rw [h0] at q; cases q), fun _ _ => rfl, (fun _ q => by rw [← r3] at q; cases q)⟩, h4, ?_, htot⟩
      intro hp
      rcases h5.2 with ⟨q, q0⟩ | ⟨gb, cap, cur, q, _⟩
      · omega
      · simp at q
        obtain ⟨rfl, rfl⟩ := q
        refine ⟨gb, 0, rfl, ?_⟩
        intro i id hi
        obtain ⟨blk, hblk⟩ := flat_has (fun i hi => (r6 i hi).2) id (List.mem_of_getElem? hi)
        refine ⟨blk, hblk, ?_⟩
        have := h5.cells (g := gb) rfl i (.pointer (some ⟨blk, 0, none⟩)) (by simp [ptrL, hi, hblk, ptr])
        rw [← this]
        congr 1
        unfold Addr.add
        split <;> simp_all
    · have hWa : ∃ WB, (0 < nW → aW = some ⟨WB, 0, none⟩) ∧ (0 < nW → w.rowIs WB 59 nW (ptrs g zW)) := by
        rcases hW with ⟨_, q, _⟩ | ⟨WB, q1, _, q2⟩
        · exact ⟨0, fun h => by omega, fun h => by omega⟩
        · exact ⟨WB, fun _ => q1, fun _ => q2⟩
      obtain ⟨WB, hW1, hW2⟩ := hWa
      refine (rel_listed nb fb L A.nL nW cW WB m aW A.zL zW g w hnL hnW (.inr ⟨lb, hbs, hl1⟩) hfrom h2 hW1 rL hW2 r4 hWH hreg).mono ?_
      rintro e w' ⟨rfl, h3, s, a, c, s1, s2, s3, s4, s5, s6⟩
      have hlen : ((List.range (A.nL - s)).map (fun i => A.zL (s + i))).length = A.nL - s := by simp
      refine ⟨rfl, h3, (List.range (A.nL - s)).map (fun i => A.zL (s + i)), a, c, ⟨(fun q => by rw [h0] at q; cases q), (fun _ q => by rw [← r3] at q; cases q), fun _ _ => ⟨s, s1, s2, s3, s4, rfl⟩⟩, by rw [hlen]; exact s5, ?_, by rw [hlen]; omega⟩
      intro hp
      rw [hlen] at hp
      refine ⟨L, s, s6 (by omega), ?_⟩
      intro i id hi
      have hi2 : i < A.nL - s := by
        have := (List.getElem?_eq_some_iff.1 hi).1
        rwa [hlen] at this
      simp [hi2] at hi
      obtain ⟨blk, hblk⟩ := r4 (s + i) (by omega)
      refine ⟨blk, by rw [← hi]; exact hblk, ?_⟩
      rw [h3.cell (by exact rL.lt), rL.cell (by omega)]
      simp [ptrs, hblk, ptr]
end Go.Proofs.Qxb6600323a
