import Derived.Test.Qxb6600323aSgA
import Derived.Test.Qxb6600323aApN
namespace Go.Proofs.Qxb6600323a
open Go.RowKit
set_option linter.unusedVariables false

def natV (A : Nat → Nat) (i : Nat) : Value := .int .i64 ((A i : Nat) : Int)
/-- The two rows of the sort. -/
structure SW (w wr : World) (ba bb n : Nat) (A B : Nat → Nat) : Prop where
  below : Below w.heap.size w wr
  ra : wr.rowIs ba 3 n (natV A)
  rb : wr.rowIs bb 3 n (natV B)
  ne : ba ≠ bb
  la : w.heap.size ≤ ba
  lb : w.heap.size ≤ bb
theorem SW.set {w wr : World} {ba bb n : Nat} {A B : Nat → Nat} (h : SW w wr ba bb n A B) (k v : Nat) : SW w (wr.setCell ⟨bb, k, none⟩ (.int .i64 (v : Int))) ba bb n A (upd B k v) :=
  ⟨h.below.setCell h.lb _, h.ra.setOther h.ne _, (h.rb.set k (.int .i64 (v : Int))).congr (fun i _ => by unfold natV upd; by_cases e : i = k <;> simp [e]), h.ne, h.la, h.lb⟩
theorem SW.drewN {w wr : World} {ba bb n : Nat} {A B : Nat → Nat} (h : SW w wr ba bb n A B) (q : Nat) : SW w (wr.drewN q) ba bb n A B :=
  ⟨below_drewN h.below _, h.ra.of_block rfl, h.rb.of_block rfl, h.ne, h.la, h.lb⟩
theorem SW.swap {w wr : World} {ba bb n : Nat} {A B : Nat → Nat} (h : SW w wr ba bb n A B) : SW w wr bb ba n B A := ⟨h.below, h.rb, h.ra, h.ne.symm, h.lb, h.la⟩

def GoodW (K : Nat → ByteArray) (A : Nat → Nat) (n W : Nat) : Prop := ∀ lo, W ∣ lo → lo ≤ n → Gd K A lo (min (lo + W) n)
theorem GoodW.start (K : Nat → ByteArray) (n : Nat) : GoodW K (fun i => i) n 1 := by
  intro lo _ hl
  by_cases e : lo = n
  · rw [e, show min (n + 1) n = n by omega]; exact Gd.triv _ _ _
  · exact Gd.one K rfl (by omega)
/-- The pass so far. -/
structure Ps (K : Nat → ByteArray) (B : Nat → Nat) (n W lo : Nat) : Prop where
  dvd : 2 * W ∣ lo
  all : ∀ lo', 2 * W ∣ lo' → lo' < lo → lo' ≤ n → Gd K B lo' (min (lo' + 2 * W) n)
theorem Ps.start (K : Nat → ByteArray) (B : Nat → Nat) (n W : Nat) : Ps K B n W 0 := ⟨Nat.dvd_zero _, fun _ _ h => absurd h (Nat.not_lt_zero _)⟩
theorem Ps.done {K : Nat → ByteArray} {B : Nat → Nat} {n W lo : Nat} (h : Ps K B n W lo) (hl : n ≤ lo) : GoodW K B n (2 * W) := by
  intro lo' hd hl'
  by_cases e : lo' < lo
  · exact h.all lo' hd e hl'
  · rw [show lo' = n by omega, show min (n + 2 * W) n = n by omega]; exact Gd.triv _ _ _
theorem dvd_gap {W a b : Nat} (ha : W ∣ a) (hb : W ∣ b) (h : a < b) : a + W ≤ b := by
  obtain ⟨x, rfl⟩ := ha
  obtain ⟨y, rfl⟩ := hb
  have hxy : x < y := Nat.lt_of_mul_lt_mul_left h
  have := Nat.mul_le_mul_left W (show x + 1 ≤ y by omega)
  rw [Nat.mul_add, Nat.mul_one] at this
  exact this
theorem Ps.next {K : Nat → ByteArray} {A B0 B : Nat → Nat} {n W lo mid hi : Nat} (h : Ps K B0 n W lo) (hg : Mg K A B0 B lo mid hi mid hi hi) (hh : hi = min (lo + 2 * W) n) : Ps K B n W (lo + 2 * W) := by
  refine ⟨Nat.dvd_add h.dvd (Nat.dvd_refl _), fun lo' hd hl hn => ?_⟩
  by_cases e : lo' < lo
  · have hgap := dvd_gap hd h.dvd e
    exact (h.all lo' hd e hn).congr (fun x h1 h2 => (hg.old x (by omega)).symm)
  · have : lo' = lo := by
      rcases Nat.lt_or_eq_of_le (show lo ≤ lo' by omega) with q | q
      · have := dvd_gap h.dvd hd q; omega
      · exact q.symm
    subst this
    rw [← hh]
    exact hg.done.2
theorem Ps.begin {K : Nat → ByteArray} {A B : Nat → Nat} {n W lo mid hi : Nat} (h : Ps K B n W lo) (hA : GoodW K A n W) (hl : lo < n) (hm : mid = min (lo + W) n) (hh : hi = min (lo + 2 * W) n) : Mg K A B B lo mid hi lo mid lo := by
  have hd : W ∣ lo := Nat.dvd_trans (Nat.dvd_mul_left _ _) h.dvd
  refine Mg.start (by rw [hm]; exact hA lo hd (by omega)) ?_ (by omega) (by omega)
  by_cases e : lo + W ≤ n
  · have := hA (lo + W) (Nat.dvd_add hd (Nat.dvd_refl _)) e
    rw [show min (lo + W + W) n = hi by omega] at this
    rw [show mid = lo + W by omega]
    exact this
  · rw [show mid = n by omega, show hi = n by omega]
    exact Gd.triv _ _ _
theorem Mg.valI {K : Nat → ByteArray} {A B0 B : Nat → Nat} {lo mid hi i j k : Nat} (h : Mg K A B0 B lo mid hi i j k) (hi' : i < mid) : A i < hi := ((h.mem (A i)).1 (.inr (.inl (by rw [seg_first hi']; exact List.mem_cons_self)))).2
theorem Mg.valJ {K : Nat → ByteArray} {A B0 B : Nat → Nat} {lo mid hi i j k : Nat} (h : Mg K A B0 B lo mid hi i j k) (hj' : j < hi) : A j < hi := ((h.mem (A j)).1 (.inr (.inr (by rw [seg_first hj']; exact List.mem_cons_self)))).2

/-- What zzSortByKey answers. -/
def SortSays (I : Inp) (n : Nat) (w : World) (e : Ending) (w' : World) : Prop := ∃ b A, e = .returned (.slice (some ⟨b, 0, none⟩) n n) ∧ w.heap.size ≤ b ∧ w'.rowIs b 3 n (natV A) ∧ Gd I.K A 0 n ∧ Below w.heap.size w w'

set_option maxRecDepth 100000 in
set_option maxHeartbeats 4000000 in
/-- zzSortByKey. -/
theorem sort_any (I : Inp) (aK : Option Addr) (n cK : Nat) (w : World) (hn : n ≤ 65536) (hK : ValsAt w aK n (keyV I)) :
    Calls Try.prog 17 #[.slice aK n cK] w fun e w' => SortSays I n w e w' := by
  have HK := (id hK : Hid (ValsAt _ _ _ _))
  have hmk := run_make_row' (P := Try.prog) 34 3 (.int .i64 0) 8 Try.underlying34 Try.info3R rfl .i64 .i64 n (by omega) (by omega)
  clear hK
  go_enter Try.func17, Try.ntmps17
  go_wp2
  go_loopw [5] (fun i wr => ∃ k : Nat, k ≤ n ∧ i = .int .i64 k ∧ Below w.heap.size w wr ∧ Hid (wr.rowIs w.heap.size 3 n (partR k (natV fun i => i) (.int .i64 0)))) (fun i _ => n - (intOf i).toNat)
  case atStart => exact ⟨0, Nat.zero_le _, rfl, (Below.refl _ _).alloc (Nat.le_refl _) _, partR_start (World.rowIs_made _ _ _ _)⟩
  case round =>
    rename World => w1
    obtain ⟨k, hk, rfl, hb, hr⟩ := hrel
    by_cases hlt : k < n
    · have hd := hr.out.cell hlt
      have hf := hr.out.frozen k
      have HN : Hid ((w1.setCell ⟨w.heap.size, k, none⟩ (.int .i64 (k : Int))).rowIs w.heap.size 3 n (partR (k + 1) (natV fun i => i) (.int .i64 0))) := partR_set (f := natV fun i => i) hr.out
      clear hmk hr
      go_wp2
      go_roundw
      case rel => exact ⟨k + 1, by omega, by go_num, hb.setCell (Nat.le_refl _) _, HN⟩
      case measure => simp [intOf]; omega
    · obtain rfl : k = n := by omega
      have hlt1 := hr.out.lt
      have HS : Hid (SW w (w1.alloc (.cells (madeCells #[.int .i64 0] k) 3)) w.heap.size w1.heap.size k (fun i => i) (fun _ => 0)) :=
        ⟨hb.alloc hb.size _, (partR_end hr.out).of_block (Below.heap_alloc _ _ _ hlt1), World.rowIs_made _ _ _ _, by omega, Nat.le_refl _, hb.size⟩
      clear hr
      go_wp2
      go_loopw [4, 6, 7] (fun va vb vw wr => ∃ ba bb W A B, va = .slice (some ⟨ba, 0, none⟩) k k ∧ vb = .slice (some ⟨bb, 0, none⟩) k k ∧ vw = .int .i64 (W : Nat) ∧ 1 ≤ W ∧ W ≤ 131072 ∧ Hid (SW w wr ba bb k A B) ∧ Hid (GoodW I.K A k W)) (fun _ _ vw _ => k - (intOf vw).toNat)
      case atStart => exact ⟨_, _, 1, _, _, rfl, rfl, rfl, by omega, by omega, HS, GoodW.start _ _⟩
      case round =>
        rename World => w2
        clear HS hb hmk hlt1
        obtain ⟨ba, bb, W, A, B, rfl, rfl, rfl, hW1, hW2, hS, hG⟩ := hrel
        by_cases hlW : W < k
        · go_wp2_with fail
          go_loopw [8] (fun vl wr => ∃ lo B, vl = .int .i64 (lo : Nat) ∧ lo ≤ 262144 ∧ Hid (SW w wr ba bb k A B) ∧ Hid (Ps I.K B k W lo)) (fun vl _ => k - (intOf vl).toNat)
          case atStart => exact ⟨0, B, rfl, by omega, hS, Ps.start _ _ _ _⟩
          case round =>
            rename World => w3
            clear hS
            obtain ⟨lo, B, rfl, hlo, hS, hP⟩ := hrel
            by_cases hll : lo < k
            · have hlm : (lo : Int) < (k : Int) := by omega
              by_cases hc1 : k < lo + W
              · have hc1' : (k : Int) < (lo : Int) + (W : Int) := by omega
                have hc2' : (k : Int) < (lo : Int) + 2 * (W : Int) := by omega
                go_wp2_with fail
                clear hc1' hc2'
                have HM : Hid (Mg I.K A B B lo k k lo k lo) := hP.out.begin hG.out hll (by omega) (by omega)
                have HH : Hid (k = min (lo + 2 * W) k) := (by omega : k = min (lo + 2 * W) k)
                have hHk : k ≤ k := by omega
                have hMH : k ≤ k := by omega
                skip
                go_loopw [11, 12, 13] (fun vi vj vk wr => ∃ i j q B', vi = .int .i64 (i : Nat) ∧ vj = .int .i64 (j : Nat) ∧ vk = .int .i64 (q : Nat) ∧ i ≤ k ∧ j ≤ k ∧ Hid (SW w wr ba bb k A B') ∧ Hid (Mg I.K A B B' lo k k i j q)) (fun vi vj _ _ => (k - (intOf vi).toNat) + (k - (intOf vj).toNat))
                case atStart => exact ⟨lo, k, lo, B, rfl, rfl, rfl, HM.out.im, HM.out.jh, hS, HM⟩
                case round =>
                  rename World => w4
                  clear hS HM
                  obtain ⟨i, j, q, B', rfl, rfl, rfl, hi, hj, hS, hM⟩ := hrel
                  by_cases hi1 : i < k
                  · by_cases hj1 : j < k
                    · exact absurd hj1 (by have := hM.out.mj; omega)
                    · have HJ : Hid (i = k ∨ j = k) := (by omega : i = k ∨ j = k)
                      go_wp2_with fail
                      go_loopw [11, 13] (fun vi vk wr => ∃ i q B', vi = .int .i64 (i : Nat) ∧ vk = .int .i64 (q : Nat) ∧ i ≤ k ∧ Hid (i = k ∨ j = k) ∧ Hid (SW w wr ba bb k A B') ∧ Hid (Mg I.K A B B' lo k k i j q)) (fun vi _ _ => k - (intOf vi).toNat)
                      case atStart => exact ⟨i, q, B', rfl, rfl, hi, HJ, hS, hM⟩
                      case round =>
                        rename World => w5
                        clear hS hM HJ
                        obtain ⟨i', q', B'', rfl, rfl, hi', HJ, hS, hM⟩ := hrel
                        by_cases hi1' : i' < k
                        · have hq := hM.out.hk
                          have hmj := hM.out.mj
                          have hq1 : q' < k := by omega
                          have ci := hS.out.ra.cell (i := i') (by omega)
                          have cq := hS.out.rb.cell (i := q') hq1
                          have cf := hS.out.rb.frozen q'
                          unfold natV at ci cq
                          have HSL : Hid (SW w (w5.setCell ⟨bb, q', none⟩ (.int .i64 ((A i' : Nat) : Int))) ba bb k A (upd B'' q' (A i'))) := hS.out.set q' (A i')
                          have HTL : Hid (Mg I.K A B (upd B'' q' (A i')) lo k k (i' + 1) j (q' + 1)) := hM.out.left hi1' (by
                            rcases HJ.out with e | e
                            · omega
                            · rw [e, Nat.sub_self]; simp [seg])
                          have HJ2 : Hid (i' + 1 = k ∨ j = k) := (by have := HJ.out; omega : i' + 1 = k ∨ j = k)
                          obtain ⟨x, hx⟩ : ∃ x, A i' = x := ⟨_, rfl⟩
                          rw [hx] at ci HSL HTL
                          clear hS hM hx hG hP
                          go_wp2_with fail
                          go_roundw
                          case rel => exact ⟨i' + 1, q' + 1, _, by go_num, by go_num, by omega, HJ2, HSL, HTL⟩
                          case measure => simp [intOf]; omega
                        · obtain hie : i' = k := by omega
                          have hM2 : Hid (Mg I.K A B B'' lo k k k j q') := by rw [hie] at hM; exact hM
                          clear HJ hM
                          go_wp2_with fail
                          go_loopw [12, 13] (fun vj vk wr => ∃ j q B', vj = .int .i64 (j : Nat) ∧ vk = .int .i64 (q : Nat) ∧ j ≤ k ∧ Hid (SW w wr ba bb k A B') ∧ Hid (Mg I.K A B B' lo k k k j q)) (fun vj _ _ => k - (intOf vj).toNat)
                          case atStart => exact ⟨j, q', B'', rfl, rfl, hj, hS, hM2⟩
                          case round =>
                            rename World => w6
                            clear hS hM2
                            obtain ⟨j', q', B'', rfl, rfl, hj', hS, hM⟩ := hrel
                            by_cases hj1' : j' < k
                            · exact absurd hj1' (by have := hM.out.mj; omega)
                            · have hje : j' = k := by omega
                              have hM3 : Hid (Ps I.K B'' k W (lo + 2 * W)) := by
                                rw [hje] at hM
                                have hd := hM.out.done.1
                                have := hM.out
                                rw [hd] at this
                                exact hP.out.next this HH.out
                              clear hM hP hG hje
                              go_wp2_with fail
                              go_roundw
                              case rel => exact ⟨lo + 2 * W, B'', by go_num, by omega, hS, hM3⟩
                              case measure => simp [intOf]; omega
                  · have HJ : Hid (i = k ∨ j = k) := (by omega : i = k ∨ j = k)
                    go_wp2_with fail
                    go_loopw [11, 13] (fun vi vk wr => ∃ i q B', vi = .int .i64 (i : Nat) ∧ vk = .int .i64 (q : Nat) ∧ i ≤ k ∧ Hid (i = k ∨ j = k) ∧ Hid (SW w wr ba bb k A B') ∧ Hid (Mg I.K A B B' lo k k i j q)) (fun vi _ _ => k - (intOf vi).toNat)
                    case atStart => exact ⟨i, q, B', rfl, rfl, hi, HJ, hS, hM⟩
                    case round =>
                      rename World => w5
                      clear hS hM HJ
                      obtain ⟨i', q', B'', rfl, rfl, hi', HJ, hS, hM⟩ := hrel
                      by_cases hi1' : i' < k
                      · have hq := hM.out.hk
                        have hmj := hM.out.mj
                        have hq1 : q' < k := by omega
                        have ci := hS.out.ra.cell (i := i') (by omega)
                        have cq := hS.out.rb.cell (i := q') hq1
                        have cf := hS.out.rb.frozen q'
                        unfold natV at ci cq
                        have HSL : Hid (SW w (w5.setCell ⟨bb, q', none⟩ (.int .i64 ((A i' : Nat) : Int))) ba bb k A (upd B'' q' (A i'))) := hS.out.set q' (A i')
                        have HTL : Hid (Mg I.K A B (upd B'' q' (A i')) lo k k (i' + 1) j (q' + 1)) := hM.out.left hi1' (by
                          rcases HJ.out with e | e
                          · omega
                          · rw [e, Nat.sub_self]; simp [seg])
                        have HJ2 : Hid (i' + 1 = k ∨ j = k) := (by have := HJ.out; omega : i' + 1 = k ∨ j = k)
                        obtain ⟨x, hx⟩ : ∃ x, A i' = x := ⟨_, rfl⟩
                        rw [hx] at ci HSL HTL
                        clear hS hM hx hG hP
                        go_wp2_with fail
                        go_roundw
                        case rel => exact ⟨i' + 1, q' + 1, _, by go_num, by go_num, by omega, HJ2, HSL, HTL⟩
                        case measure => simp [intOf]; omega
                      · obtain hie : i' = k := by omega
                        have hM2 : Hid (Mg I.K A B B'' lo k k k j q') := by rw [hie] at hM; exact hM
                        clear HJ hM
                        go_wp2_with fail
                        go_loopw [12, 13] (fun vj vk wr => ∃ j q B', vj = .int .i64 (j : Nat) ∧ vk = .int .i64 (q : Nat) ∧ j ≤ k ∧ Hid (SW w wr ba bb k A B') ∧ Hid (Mg I.K A B B' lo k k k j q)) (fun vj _ _ => k - (intOf vj).toNat)
                        case atStart => exact ⟨j, q', B'', rfl, rfl, hj, hS, hM2⟩
                        case round =>
                          rename World => w6
                          clear hS hM2
                          obtain ⟨j', q', B'', rfl, rfl, hj', hS, hM⟩ := hrel
                          by_cases hj1' : j' < k
                          · exact absurd hj1' (by have := hM.out.mj; omega)
                          · have hje : j' = k := by omega
                            have hM3 : Hid (Ps I.K B'' k W (lo + 2 * W)) := by
                              rw [hje] at hM
                              have hd := hM.out.done.1
                              have := hM.out
                              rw [hd] at this
                              exact hP.out.next this HH.out
                            clear hM hP hG hje
                            go_wp2_with fail
                            go_roundw
                            case rel => exact ⟨lo + 2 * W, B'', by go_num, by omega, hS, hM3⟩
                            case measure => simp [intOf]; omega
              · have hc1' : ¬ (k : Int) < (lo : Int) + (W : Int) := by omega
                by_cases hc2 : k < lo + 2 * W
                · have hc2' : (k : Int) < (lo : Int) + 2 * (W : Int) := by omega
                  go_wp2_with fail
                  obtain ⟨mid, hmid⟩ : ∃ mid : Nat, mid = lo + W := ⟨_, rfl⟩
                  rw [show (lo : Int) + (W : Int) = (mid : Int) by omega]
                  clear hc1' hc2'
                  have HM : Hid (Mg I.K A B B lo mid k lo mid lo) := hP.out.begin hG.out hll (by omega) (by omega)
                  have HH : Hid (k = min (lo + 2 * W) k) := (by omega : k = min (lo + 2 * W) k)
                  have hHk : k ≤ k := by omega
                  have hMH : mid ≤ k := by omega
                  clear hmid
                  go_loopw [11, 12, 13] (fun vi vj vk wr => ∃ i j q B', vi = .int .i64 (i : Nat) ∧ vj = .int .i64 (j : Nat) ∧ vk = .int .i64 (q : Nat) ∧ i ≤ mid ∧ j ≤ k ∧ Hid (SW w wr ba bb k A B') ∧ Hid (Mg I.K A B B' lo mid k i j q)) (fun vi vj _ _ => (mid - (intOf vi).toNat) + (k - (intOf vj).toNat))
                  case atStart => exact ⟨lo, mid, lo, B, rfl, rfl, rfl, HM.out.im, HM.out.jh, hS, HM⟩
                  case round =>
                    rename World => w4
                    clear hS HM
                    obtain ⟨i, j, q, B', rfl, rfl, rfl, hi, hj, hS, hM⟩ := hrel
                    by_cases hi1 : i < mid
                    · by_cases hj1 : j < k
                      · have hq := hM.out.hk
                        have hmj := hM.out.mj
                        have vi := hM.out.valI hi1
                        have vj := hM.out.valJ hj1
                        have hq1 : q < k := by omega
                        have ci := hS.out.ra.cell (i := i) (by omega)
                        have cj := hS.out.ra.cell (i := j) (by omega)
                        have cq := hS.out.rb.cell (i := q) hq1
                        have cf := hS.out.rb.frozen q
                        unfold natV at ci cj cq
                        obtain ⟨kb, koff, rfl, hkc⟩ := HK.out (by omega)
                        have ki := hkc (A i) (by omega)
                        have kj := hkc (A j) (by omega)
                        unfold keyV at ki kj
                        have ki' := (hS.out.below.cell (by exact World.block_lt_of_cell? w _ ki)).trans ki
                        have kj' := (hS.out.below.cell (by exact World.block_lt_of_cell? w _ kj)).trans kj
                        have HSL : ∀ nq, Hid (SW w ((w4.setCell ⟨bb, q, none⟩ (.int .i64 ((A i : Nat) : Int))).drewN nq) ba bb k A (upd B' q (A i))) := fun nq => (hS.out.set q (A i)).drewN nq
                        have HSR : ∀ nq, Hid (SW w ((w4.setCell ⟨bb, q, none⟩ (.int .i64 ((A j : Nat) : Int))).drewN nq) ba bb k A (upd B' q (A j))) := fun nq => (hS.out.set q (A j)).drewN nq
                        have HTL : Hid (Op.bytesLess (I.K (A j)).toList (I.K (A i)).toList = false → Mg I.K A B (upd B' q (A i)) lo mid k (i + 1) j (q + 1)) := fun h => hM.out.takeL hi1 hj1 h
                        have HTR : Hid (Op.bytesLess (I.K (A j)).toList (I.K (A i)).toList = true → Mg I.K A B (upd B' q (A j)) lo mid k i (j + 1) (q + 1)) := fun h => hM.out.takeR hi1 hj1 h
                        obtain ⟨x, hx⟩ : ∃ x, A i = x := ⟨_, rfl⟩
                        obtain ⟨y, hy⟩ : ∃ y, A j = y := ⟨_, rfl⟩
                        rw [hx] at ci vi ki' HSL HTL HTR
                        rw [hy] at cj vj kj' HSR HTL HTR
                        have hx0 : (0 : Int) ≤ (x : Int) := by omega
                        have hx1 : (x : Int) < (k : Int) := by omega
                        have hy0 : (0 : Int) ≤ (y : Int) := by omega
                        have hy1 : (y : Int) < (k : Int) := by omega
                        clear hkc ki kj hS hM hx hy hG hP
                        cases hless : Op.bytesLess (I.K y).toList (I.K x).toList with
                        | false =>
                          have HT := (id (HTL.out hless) : Hid (Mg _ _ _ _ _ _ _ _ _ _))
                          go_wp2_with fail
                          go_quiet (fail)
                          go_wp2_with fail
                          go_roundw
                          case rel => exact ⟨i + 1, j, q + 1, _, by go_num, rfl, by go_num, by omega, hj, HSL _, HT⟩
                          case measure => simp [intOf]; omega
                        | true =>
                          have HT := (id (HTR.out hless) : Hid (Mg _ _ _ _ _ _ _ _ _ _))
                          go_wp2_with fail
                          go_quiet (fail)
                          go_wp2_with fail
                          go_roundw
                          case rel => exact ⟨i, j + 1, q + 1, _, rfl, by go_num, by go_num, hi, by omega, HSR _, HT⟩
                          case measure => simp [intOf]; omega
                      · have HJ : Hid (i = mid ∨ j = k) := (by omega : i = mid ∨ j = k)
                        go_wp2_with fail
                        go_loopw [11, 13] (fun vi vk wr => ∃ i q B', vi = .int .i64 (i : Nat) ∧ vk = .int .i64 (q : Nat) ∧ i ≤ mid ∧ Hid (i = mid ∨ j = k) ∧ Hid (SW w wr ba bb k A B') ∧ Hid (Mg I.K A B B' lo mid k i j q)) (fun vi _ _ => mid - (intOf vi).toNat)
                        case atStart => exact ⟨i, q, B', rfl, rfl, hi, HJ, hS, hM⟩
                        case round =>
                          rename World => w5
                          clear hS hM HJ
                          obtain ⟨i', q', B'', rfl, rfl, hi', HJ, hS, hM⟩ := hrel
                          by_cases hi1' : i' < mid
                          · have hq := hM.out.hk
                            have hmj := hM.out.mj
                            have hq1 : q' < k := by omega
                            have ci := hS.out.ra.cell (i := i') (by omega)
                            have cq := hS.out.rb.cell (i := q') hq1
                            have cf := hS.out.rb.frozen q'
                            unfold natV at ci cq
                            have HSL : Hid (SW w (w5.setCell ⟨bb, q', none⟩ (.int .i64 ((A i' : Nat) : Int))) ba bb k A (upd B'' q' (A i'))) := hS.out.set q' (A i')
                            have HTL : Hid (Mg I.K A B (upd B'' q' (A i')) lo mid k (i' + 1) j (q' + 1)) := hM.out.left hi1' (by
                              rcases HJ.out with e | e
                              · omega
                              · rw [e, Nat.sub_self]; simp [seg])
                            have HJ2 : Hid (i' + 1 = mid ∨ j = k) := (by have := HJ.out; omega : i' + 1 = mid ∨ j = k)
                            obtain ⟨x, hx⟩ : ∃ x, A i' = x := ⟨_, rfl⟩
                            rw [hx] at ci HSL HTL
                            clear hS hM hx hG hP
                            go_wp2_with fail
                            go_roundw
                            case rel => exact ⟨i' + 1, q' + 1, _, by go_num, by go_num, by omega, HJ2, HSL, HTL⟩
                            case measure => simp [intOf]; omega
                          · obtain hie : i' = mid := by omega
                            have hM2 : Hid (Mg I.K A B B'' lo mid k mid j q') := by rw [hie] at hM; exact hM
                            clear HJ hM
                            go_wp2_with fail
                            go_loopw [12, 13] (fun vj vk wr => ∃ j q B', vj = .int .i64 (j : Nat) ∧ vk = .int .i64 (q : Nat) ∧ j ≤ k ∧ Hid (SW w wr ba bb k A B') ∧ Hid (Mg I.K A B B' lo mid k mid j q)) (fun vj _ _ => k - (intOf vj).toNat)
                            case atStart => exact ⟨j, q', B'', rfl, rfl, hj, hS, hM2⟩
                            case round =>
                              rename World => w6
                              clear hS hM2
                              obtain ⟨j', q', B'', rfl, rfl, hj', hS, hM⟩ := hrel
                              by_cases hj1' : j' < k
                              · have hq := hM.out.hk
                                have hmj := hM.out.mj
                                have hq1 : q' < k := by omega
                                have cj := hS.out.ra.cell (i := j') (by omega)
                                have cq := hS.out.rb.cell (i := q') hq1
                                have cf := hS.out.rb.frozen q'
                                unfold natV at cj cq
                                have HSL : Hid (SW w (w6.setCell ⟨bb, q', none⟩ (.int .i64 ((A j' : Nat) : Int))) ba bb k A (upd B'' q' (A j'))) := hS.out.set q' (A j')
                                have HTL : Hid (Mg I.K A B (upd B'' q' (A j')) lo mid k mid (j' + 1) (q' + 1)) := hM.out.right hj1' (by rw [Nat.sub_self]; simp [seg])
                                obtain ⟨x, hx⟩ : ∃ x, A j' = x := ⟨_, rfl⟩
                                rw [hx] at cj HSL HTL
                                clear hS hM hx hG hP
                                go_wp2_with fail
                                go_roundw
                                case rel => exact ⟨j' + 1, q' + 1, _, by go_num, by go_num, by omega, HSL, HTL⟩
                                case measure => simp [intOf]; omega
                              · have hje : j' = k := by omega
                                have hM3 : Hid (Ps I.K B'' k W (lo + 2 * W)) := by
                                  rw [hje] at hM
                                  have hd := hM.out.done.1
                                  have := hM.out
                                  rw [hd] at this
                                  exact hP.out.next this HH.out
                                clear hM hP hG hje
                                go_wp2_with fail
                                go_roundw
                                case rel => exact ⟨lo + 2 * W, B'', by go_num, by omega, hS, hM3⟩
                                case measure => simp [intOf]; omega
                    · have HJ : Hid (i = mid ∨ j = k) := (by omega : i = mid ∨ j = k)
                      go_wp2_with fail
                      go_loopw [11, 13] (fun vi vk wr => ∃ i q B', vi = .int .i64 (i : Nat) ∧ vk = .int .i64 (q : Nat) ∧ i ≤ mid ∧ Hid (i = mid ∨ j = k) ∧ Hid (SW w wr ba bb k A B') ∧ Hid (Mg I.K A B B' lo mid k i j q)) (fun vi _ _ => mid - (intOf vi).toNat)
                      case atStart => exact ⟨i, q, B', rfl, rfl, hi, HJ, hS, hM⟩
                      case round =>
                        rename World => w5
                        clear hS hM HJ
                        obtain ⟨i', q', B'', rfl, rfl, hi', HJ, hS, hM⟩ := hrel
                        by_cases hi1' : i' < mid
                        · have hq := hM.out.hk
                          have hmj := hM.out.mj
                          have hq1 : q' < k := by omega
                          have ci := hS.out.ra.cell (i := i') (by omega)
                          have cq := hS.out.rb.cell (i := q') hq1
                          have cf := hS.out.rb.frozen q'
                          unfold natV at ci cq
                          have HSL : Hid (SW w (w5.setCell ⟨bb, q', none⟩ (.int .i64 ((A i' : Nat) : Int))) ba bb k A (upd B'' q' (A i'))) := hS.out.set q' (A i')
                          have HTL : Hid (Mg I.K A B (upd B'' q' (A i')) lo mid k (i' + 1) j (q' + 1)) := hM.out.left hi1' (by
                            rcases HJ.out with e | e
                            · omega
                            · rw [e, Nat.sub_self]; simp [seg])
                          have HJ2 : Hid (i' + 1 = mid ∨ j = k) := (by have := HJ.out; omega : i' + 1 = mid ∨ j = k)
                          obtain ⟨x, hx⟩ : ∃ x, A i' = x := ⟨_, rfl⟩
                          rw [hx] at ci HSL HTL
                          clear hS hM hx hG hP
                          go_wp2_with fail
                          go_roundw
                          case rel => exact ⟨i' + 1, q' + 1, _, by go_num, by go_num, by omega, HJ2, HSL, HTL⟩
                          case measure => simp [intOf]; omega
                        · obtain hie : i' = mid := by omega
                          have hM2 : Hid (Mg I.K A B B'' lo mid k mid j q') := by rw [hie] at hM; exact hM
                          clear HJ hM
                          go_wp2_with fail
                          go_loopw [12, 13] (fun vj vk wr => ∃ j q B', vj = .int .i64 (j : Nat) ∧ vk = .int .i64 (q : Nat) ∧ j ≤ k ∧ Hid (SW w wr ba bb k A B') ∧ Hid (Mg I.K A B B' lo mid k mid j q)) (fun vj _ _ => k - (intOf vj).toNat)
                          case atStart => exact ⟨j, q', B'', rfl, rfl, hj, hS, hM2⟩
                          case round =>
                            rename World => w6
                            clear hS hM2
                            obtain ⟨j', q', B'', rfl, rfl, hj', hS, hM⟩ := hrel
                            by_cases hj1' : j' < k
                            · have hq := hM.out.hk
                              have hmj := hM.out.mj
                              have hq1 : q' < k := by omega
                              have cj := hS.out.ra.cell (i := j') (by omega)
                              have cq := hS.out.rb.cell (i := q') hq1
                              have cf := hS.out.rb.frozen q'
                              unfold natV at cj cq
                              have HSL : Hid (SW w (w6.setCell ⟨bb, q', none⟩ (.int .i64 ((A j' : Nat) : Int))) ba bb k A (upd B'' q' (A j'))) := hS.out.set q' (A j')
                              have HTL : Hid (Mg I.K A B (upd B'' q' (A j')) lo mid k mid (j' + 1) (q' + 1)) := hM.out.right hj1' (by rw [Nat.sub_self]; simp [seg])
                              obtain ⟨x, hx⟩ : ∃ x, A j' = x := ⟨_, rfl⟩
                              rw [hx] at cj HSL HTL
                              clear hS hM hx hG hP
                              go_wp2_with fail
                              go_roundw
                              case rel => exact ⟨j' + 1, q' + 1, _, by go_num, by go_num, by omega, HSL, HTL⟩
                              case measure => simp [intOf]; omega
                            · have hje : j' = k := by omega
                              have hM3 : Hid (Ps I.K B'' k W (lo + 2 * W)) := by
                                rw [hje] at hM
                                have hd := hM.out.done.1
                                have := hM.out
                                rw [hd] at this
                                exact hP.out.next this HH.out
                              clear hM hP hG hje
                              go_wp2_with fail
                              go_roundw
                              case rel => exact ⟨lo + 2 * W, B'', by go_num, by omega, hS, hM3⟩
                              case measure => simp [intOf]; omega
                · have hc2' : ¬ (k : Int) < (lo : Int) + 2 * (W : Int) := by omega
                  go_wp2_with fail
                  obtain ⟨mid, hmid⟩ : ∃ mid : Nat, mid = lo + W := ⟨_, rfl⟩
                  obtain ⟨hi0, hhi⟩ : ∃ hi0 : Nat, hi0 = lo + 2 * W := ⟨_, rfl⟩
                  rw [show (lo : Int) + (W : Int) = (mid : Int) by omega, show (lo : Int) + 2 * (W : Int) = (hi0 : Int) by omega]
                  clear hc1' hc2'
                  have HM : Hid (Mg I.K A B B lo mid hi0 lo mid lo) := hP.out.begin hG.out hll (by omega) (by omega)
                  have HH : Hid (hi0 = min (lo + 2 * W) k) := (by omega : hi0 = min (lo + 2 * W) k)
                  have hHk : hi0 ≤ k := by omega
                  have hMH : mid ≤ hi0 := by omega
                  clear hmid
                  clear hhi
                  go_loopw [11, 12, 13] (fun vi vj vk wr => ∃ i j q B', vi = .int .i64 (i : Nat) ∧ vj = .int .i64 (j : Nat) ∧ vk = .int .i64 (q : Nat) ∧ i ≤ mid ∧ j ≤ hi0 ∧ Hid (SW w wr ba bb k A B') ∧ Hid (Mg I.K A B B' lo mid hi0 i j q)) (fun vi vj _ _ => (mid - (intOf vi).toNat) + (hi0 - (intOf vj).toNat))
                  case atStart => exact ⟨lo, mid, lo, B, rfl, rfl, rfl, HM.out.im, HM.out.jh, hS, HM⟩
                  case round =>
                    rename World => w4
                    clear hS HM
                    obtain ⟨i, j, q, B', rfl, rfl, rfl, hi, hj, hS, hM⟩ := hrel
                    by_cases hi1 : i < mid
                    · by_cases hj1 : j < hi0
                      · have hq := hM.out.hk
                        have hmj := hM.out.mj
                        have vi := hM.out.valI hi1
                        have vj := hM.out.valJ hj1
                        have hq1 : q < k := by omega
                        have ci := hS.out.ra.cell (i := i) (by omega)
                        have cj := hS.out.ra.cell (i := j) (by omega)
                        have cq := hS.out.rb.cell (i := q) hq1
                        have cf := hS.out.rb.frozen q
                        unfold natV at ci cj cq
                        obtain ⟨kb, koff, rfl, hkc⟩ := HK.out (by omega)
                        have ki := hkc (A i) (by omega)
                        have kj := hkc (A j) (by omega)
                        unfold keyV at ki kj
                        have ki' := (hS.out.below.cell (by exact World.block_lt_of_cell? w _ ki)).trans ki
                        have kj' := (hS.out.below.cell (by exact World.block_lt_of_cell? w _ kj)).trans kj
                        have HSL : ∀ nq, Hid (SW w ((w4.setCell ⟨bb, q, none⟩ (.int .i64 ((A i : Nat) : Int))).drewN nq) ba bb k A (upd B' q (A i))) := fun nq => (hS.out.set q (A i)).drewN nq
                        have HSR : ∀ nq, Hid (SW w ((w4.setCell ⟨bb, q, none⟩ (.int .i64 ((A j : Nat) : Int))).drewN nq) ba bb k A (upd B' q (A j))) := fun nq => (hS.out.set q (A j)).drewN nq
                        have HTL : Hid (Op.bytesLess (I.K (A j)).toList (I.K (A i)).toList = false → Mg I.K A B (upd B' q (A i)) lo mid hi0 (i + 1) j (q + 1)) := fun h => hM.out.takeL hi1 hj1 h
                        have HTR : Hid (Op.bytesLess (I.K (A j)).toList (I.K (A i)).toList = true → Mg I.K A B (upd B' q (A j)) lo mid hi0 i (j + 1) (q + 1)) := fun h => hM.out.takeR hi1 hj1 h
                        obtain ⟨x, hx⟩ : ∃ x, A i = x := ⟨_, rfl⟩
                        obtain ⟨y, hy⟩ : ∃ y, A j = y := ⟨_, rfl⟩
                        rw [hx] at ci vi ki' HSL HTL HTR
                        rw [hy] at cj vj kj' HSR HTL HTR
                        have hx0 : (0 : Int) ≤ (x : Int) := by omega
                        have hx1 : (x : Int) < (k : Int) := by omega
                        have hy0 : (0 : Int) ≤ (y : Int) := by omega
                        have hy1 : (y : Int) < (k : Int) := by omega
                        clear hkc ki kj hS hM hx hy hG hP
                        cases hless : Op.bytesLess (I.K y).toList (I.K x).toList with
                        | false =>
                          have HT := (id (HTL.out hless) : Hid (Mg _ _ _ _ _ _ _ _ _ _))
                          go_wp2_with fail
                          go_quiet (fail)
                          go_wp2_with fail
                          go_roundw
                          case rel => exact ⟨i + 1, j, q + 1, _, by go_num, rfl, by go_num, by omega, hj, HSL _, HT⟩
                          case measure => simp [intOf]; omega
                        | true =>
                          have HT := (id (HTR.out hless) : Hid (Mg _ _ _ _ _ _ _ _ _ _))
                          go_wp2_with fail
                          go_quiet (fail)
                          go_wp2_with fail
                          go_roundw
                          case rel => exact ⟨i, j + 1, q + 1, _, rfl, by go_num, by go_num, hi, by omega, HSR _, HT⟩
                          case measure => simp [intOf]; omega
                      · have HJ : Hid (i = mid ∨ j = hi0) := (by omega : i = mid ∨ j = hi0)
                        go_wp2_with fail
                        go_loopw [11, 13] (fun vi vk wr => ∃ i q B', vi = .int .i64 (i : Nat) ∧ vk = .int .i64 (q : Nat) ∧ i ≤ mid ∧ Hid (i = mid ∨ j = hi0) ∧ Hid (SW w wr ba bb k A B') ∧ Hid (Mg I.K A B B' lo mid hi0 i j q)) (fun vi _ _ => mid - (intOf vi).toNat)
                        case atStart => exact ⟨i, q, B', rfl, rfl, hi, HJ, hS, hM⟩
                        case round =>
                          rename World => w5
                          clear hS hM HJ
                          obtain ⟨i', q', B'', rfl, rfl, hi', HJ, hS, hM⟩ := hrel
                          by_cases hi1' : i' < mid
                          · have hq := hM.out.hk
                            have hmj := hM.out.mj
                            have hq1 : q' < k := by omega
                            have ci := hS.out.ra.cell (i := i') (by omega)
                            have cq := hS.out.rb.cell (i := q') hq1
                            have cf := hS.out.rb.frozen q'
                            unfold natV at ci cq
                            have HSL : Hid (SW w (w5.setCell ⟨bb, q', none⟩ (.int .i64 ((A i' : Nat) : Int))) ba bb k A (upd B'' q' (A i'))) := hS.out.set q' (A i')
                            have HTL : Hid (Mg I.K A B (upd B'' q' (A i')) lo mid hi0 (i' + 1) j (q' + 1)) := hM.out.left hi1' (by
                              rcases HJ.out with e | e
                              · omega
                              · rw [e, Nat.sub_self]; simp [seg])
                            have HJ2 : Hid (i' + 1 = mid ∨ j = hi0) := (by have := HJ.out; omega : i' + 1 = mid ∨ j = hi0)
                            obtain ⟨x, hx⟩ : ∃ x, A i' = x := ⟨_, rfl⟩
                            rw [hx] at ci HSL HTL
                            clear hS hM hx hG hP
                            go_wp2_with fail
                            go_roundw
                            case rel => exact ⟨i' + 1, q' + 1, _, by go_num, by go_num, by omega, HJ2, HSL, HTL⟩
                            case measure => simp [intOf]; omega
                          · obtain hie : i' = mid := by omega
                            have hM2 : Hid (Mg I.K A B B'' lo mid hi0 mid j q') := by rw [hie] at hM; exact hM
                            clear HJ hM
                            go_wp2_with fail
                            go_loopw [12, 13] (fun vj vk wr => ∃ j q B', vj = .int .i64 (j : Nat) ∧ vk = .int .i64 (q : Nat) ∧ j ≤ hi0 ∧ Hid (SW w wr ba bb k A B') ∧ Hid (Mg I.K A B B' lo mid hi0 mid j q)) (fun vj _ _ => hi0 - (intOf vj).toNat)
                            case atStart => exact ⟨j, q', B'', rfl, rfl, hj, hS, hM2⟩
                            case round =>
                              rename World => w6
                              clear hS hM2
                              obtain ⟨j', q', B'', rfl, rfl, hj', hS, hM⟩ := hrel
                              by_cases hj1' : j' < hi0
                              · have hq := hM.out.hk
                                have hmj := hM.out.mj
                                have hq1 : q' < k := by omega
                                have cj := hS.out.ra.cell (i := j') (by omega)
                                have cq := hS.out.rb.cell (i := q') hq1
                                have cf := hS.out.rb.frozen q'
                                unfold natV at cj cq
                                have HSL : Hid (SW w (w6.setCell ⟨bb, q', none⟩ (.int .i64 ((A j' : Nat) : Int))) ba bb k A (upd B'' q' (A j'))) := hS.out.set q' (A j')
                                have HTL : Hid (Mg I.K A B (upd B'' q' (A j')) lo mid hi0 mid (j' + 1) (q' + 1)) := hM.out.right hj1' (by rw [Nat.sub_self]; simp [seg])
                                obtain ⟨x, hx⟩ : ∃ x, A j' = x := ⟨_, rfl⟩
                                rw [hx] at cj HSL HTL
                                clear hS hM hx hG hP
                                go_wp2_with fail
                                go_roundw
                                case rel => exact ⟨j' + 1, q' + 1, _, by go_num, by go_num, by omega, HSL, HTL⟩
                                case measure => simp [intOf]; omega
                              · have hje : j' = hi0 := by omega
                                have hM3 : Hid (Ps I.K B'' k W (lo + 2 * W)) := by
                                  rw [hje] at hM
                                  have hd := hM.out.done.1
                                  have := hM.out
                                  rw [hd] at this
                                  exact hP.out.next this HH.out
                                clear hM hP hG hje
                                go_wp2_with fail
                                go_roundw
                                case rel => exact ⟨lo + 2 * W, B'', by go_num, by omega, hS, hM3⟩
                                case measure => simp [intOf]; omega
                    · have HJ : Hid (i = mid ∨ j = hi0) := (by omega : i = mid ∨ j = hi0)
                      go_wp2_with fail
                      go_loopw [11, 13] (fun vi vk wr => ∃ i q B', vi = .int .i64 (i : Nat) ∧ vk = .int .i64 (q : Nat) ∧ i ≤ mid ∧ Hid (i = mid ∨ j = hi0) ∧ Hid (SW w wr ba bb k A B') ∧ Hid (Mg I.K A B B' lo mid hi0 i j q)) (fun vi _ _ => mid - (intOf vi).toNat)
                      case atStart => exact ⟨i, q, B', rfl, rfl, hi, HJ, hS, hM⟩
                      case round =>
                        rename World => w5
                        clear hS hM HJ
                        obtain ⟨i', q', B'', rfl, rfl, hi', HJ, hS, hM⟩ := hrel
                        by_cases hi1' : i' < mid
                        · have hq := hM.out.hk
                          have hmj := hM.out.mj
                          have hq1 : q' < k := by omega
                          have ci := hS.out.ra.cell (i := i') (by omega)
                          have cq := hS.out.rb.cell (i := q') hq1
                          have cf := hS.out.rb.frozen q'
                          unfold natV at ci cq
                          have HSL : Hid (SW w (w5.setCell ⟨bb, q', none⟩ (.int .i64 ((A i' : Nat) : Int))) ba bb k A (upd B'' q' (A i'))) := hS.out.set q' (A i')
                          have HTL : Hid (Mg I.K A B (upd B'' q' (A i')) lo mid hi0 (i' + 1) j (q' + 1)) := hM.out.left hi1' (by
                            rcases HJ.out with e | e
                            · omega
                            · rw [e, Nat.sub_self]; simp [seg])
                          have HJ2 : Hid (i' + 1 = mid ∨ j = hi0) := (by have := HJ.out; omega : i' + 1 = mid ∨ j = hi0)
                          obtain ⟨x, hx⟩ : ∃ x, A i' = x := ⟨_, rfl⟩
                          rw [hx] at ci HSL HTL
                          clear hS hM hx hG hP
                          go_wp2_with fail
                          go_roundw
                          case rel => exact ⟨i' + 1, q' + 1, _, by go_num, by go_num, by omega, HJ2, HSL, HTL⟩
                          case measure => simp [intOf]; omega
                        · obtain hie : i' = mid := by omega
                          have hM2 : Hid (Mg I.K A B B'' lo mid hi0 mid j q') := by rw [hie] at hM; exact hM
                          clear HJ hM
                          go_wp2_with fail
                          go_loopw [12, 13] (fun vj vk wr => ∃ j q B', vj = .int .i64 (j : Nat) ∧ vk = .int .i64 (q : Nat) ∧ j ≤ hi0 ∧ Hid (SW w wr ba bb k A B') ∧ Hid (Mg I.K A B B' lo mid hi0 mid j q)) (fun vj _ _ => hi0 - (intOf vj).toNat)
                          case atStart => exact ⟨j, q', B'', rfl, rfl, hj, hS, hM2⟩
                          case round =>
                            rename World => w6
                            clear hS hM2
                            obtain ⟨j', q', B'', rfl, rfl, hj', hS, hM⟩ := hrel
                            by_cases hj1' : j' < hi0
                            · have hq := hM.out.hk
                              have hmj := hM.out.mj
                              have hq1 : q' < k := by omega
                              have cj := hS.out.ra.cell (i := j') (by omega)
                              have cq := hS.out.rb.cell (i := q') hq1
                              have cf := hS.out.rb.frozen q'
                              unfold natV at cj cq
                              have HSL : Hid (SW w (w6.setCell ⟨bb, q', none⟩ (.int .i64 ((A j' : Nat) : Int))) ba bb k A (upd B'' q' (A j'))) := hS.out.set q' (A j')
                              have HTL : Hid (Mg I.K A B (upd B'' q' (A j')) lo mid hi0 mid (j' + 1) (q' + 1)) := hM.out.right hj1' (by rw [Nat.sub_self]; simp [seg])
                              obtain ⟨x, hx⟩ : ∃ x, A j' = x := ⟨_, rfl⟩
                              rw [hx] at cj HSL HTL
                              clear hS hM hx hG hP
                              go_wp2_with fail
                              go_roundw
                              case rel => exact ⟨j' + 1, q' + 1, _, by go_num, by go_num, by omega, HSL, HTL⟩
                              case measure => simp [intOf]; omega
                            · have hje : j' = hi0 := by omega
                              have hM3 : Hid (Ps I.K B'' k W (lo + 2 * W)) := by
                                rw [hje] at hM
                                have hd := hM.out.done.1
                                have := hM.out
                                rw [hd] at this
                                exact hP.out.next this HH.out
                              clear hM hP hG hje
                              go_wp2_with fail
                              go_roundw
                              case rel => exact ⟨lo + 2 * W, B'', by go_num, by omega, hS, hM3⟩
                              case measure => simp [intOf]; omega
            · have HG2 : Hid (GoodW I.K B k (2 * W)) := hP.out.done (by omega)
              clear hP hG
              go_wp2_with fail
              go_roundw
              case rel => exact ⟨bb, ba, 2 * W, B, A, rfl, rfl, by go_num, by omega, by omega, hS.out.swap, HG2⟩
              case measure => simp [intOf]; omega
        · have HG2 : Hid (Gd I.K A 0 k) := by
            have := hG.out 0 (Nat.dvd_zero _) (Nat.zero_le _)
            rw [show min (0 + W) k = k by omega] at this
            exact this
          clear hG
          go_wp2_with fail
          go_ret
          exact ⟨ba, A, rfl, hS.out.la, hS.out.ra, HG2.out, hS.out.below⟩
end Go.Proofs.Qxb6600323a
