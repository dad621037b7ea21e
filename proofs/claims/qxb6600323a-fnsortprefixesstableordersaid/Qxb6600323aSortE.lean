import Derived.Test.Qxb6600323aSortD
namespace Go.Proofs.Qxb6600323a
open Go.RowKit

theorem stable_facts {n : Nat} {P : Nat → Int} (hP : ∀ i, i < n → 0 ≤ P i ∧ P i < 18446744073709551616) {G : Nat → Int × Int} (h : St n (fun i => (P i, (i : Int))) 8 G) :
    (∀ k, k < n → ∃ a : Nat, a < n ∧ (G k).2 = (a : Int) ∧ (G k).1 = P a) ∧ (∀ i j, i < j → j < n → (G i).1 < (G j).1 ∨ ((G i).1 = (G j).1 ∧ (G i).2 < (G j).2)) := by
  refine ⟨fun k hk => ?_, ?_⟩
  · obtain ⟨j, hj, e⟩ := st_from h k hk
    exact ⟨j, hj, by rw [← e], by rw [← e]⟩
  · exact st_end (F := fun i => (P i, (i : Int))) hP h (fun x y => x.2 < y.2) (fun i j hij _ => by show (i : Int) < (j : Int); omega)

theorem bytes_so (a : Option Addr) (n c : Nat) (w : World) (hn : n ≤ maxLen) :
    Calls Try.prog 32 #[.slice a n c] w fun e w' => e = .returned (.bool (decide (n ≤ 1048576))) ∧ w = w' := by
  unfold maxLen at hn
  by_cases h : n ≤ 1048576
  · rw [decide_eq_true h]
    have h1 : ¬ (1048576 : Int) < (n : Int) := by omega
    go_enter Try.func32, Try.ntmps32
    go_wp2
    go_ret
    exact ⟨rfl, rfl⟩
  · rw [decide_eq_false h]
    have h1 : (1048576 : Int) < (n : Int) := by omega
    go_enter Try.func32, Try.ntmps32
    go_wp2
    go_ret
    exact ⟨rfl, rfl⟩

/-- More than 2^20, more than 2^17, or none. -/
theorem so_easy (a : Option Addr) (n c : Nat) (w : World) (hn : n ≤ maxLen) (h : 131072 < n ∨ n = 0) :
    Calls Try.prog 8 #[.slice a n c] w fun e w' => e = .returned (.bool true) ∧ Below w.heap.size w w' := by
  have HB := fun w => (id (bytes_so a n c w hn) : Hid (Calls _ _ _ _ _))
  unfold maxLen at hn
  cases hd : decide (n ≤ 1048576) with
  | false =>
    simp only [hd] at HB
    clear hd
    go_enter Try.func8, Try.ntmps8
    go_wp2_with fail
    refine (HB _).out.mono ?_
    rintro e w' ⟨rfl, rfl⟩
    go_wp2
    go_ret
    exact ⟨rfl, Below.refl _ _⟩
  | true =>
    simp only [hd] at HB
    clear hd
    rcases h with h | rfl
    · go_enter Try.func8, Try.ntmps8
      go_wp2_with fail
      refine (HB _).out.mono ?_
      rintro e w' ⟨rfl, rfl⟩
      go_wp2
      go_ret
      exact ⟨rfl, Below.refl _ _⟩
    · go_enter Try.func8, Try.ntmps8
      go_wp2_with fail
      refine (HB _).out.mono ?_
      rintro e w' ⟨rfl, rfl⟩
      go_wp2
      go_ret
      exact ⟨rfl, Below.refl _ _⟩

/-- What the loop over the result holds. -/
def Seen (w : World) (n S k : Nat) (G : Nat → Int × Int) (wr : World) : Prop := ∃ fs : Nat → Bool, wr.rowIs S 4 n (fun v => .bool (fs v)) ∧ (∀ v, fs v = true → ∃ i, i < k ∧ (G i).2 = (v : Int)) ∧ Below w.heap.size w wr

theorem Seen.drewN {w : World} {n S k : Nat} {G : Nat → Int × Int} {wr : World} (h : Seen w n S k G wr) (m : Nat) : Seen w n S k G (wr.drewN m) := by
  obtain ⟨fs, h1, h2, h3⟩ := h
  exact ⟨fs, h1, h2, below_drewN h3 m⟩

set_option maxRecDepth 100000 in
set_option maxHeartbeats 1000000 in
theorem so_main (b off n c : Nat) (P : Nat → Int) (w : World) (hn : 1 ≤ n) (hn2 : n ≤ 131072) (hP0 : ∀ i, i < n → 0 ≤ P i ∧ P i < 18446744073709551616)
    (hP : ∀ i, i < n → w.cell? ⟨b, off + i, none⟩ = some (.int .u64 (P i))) :
    Calls Try.prog 8 #[.slice (some ⟨b, off, none⟩) n c] w fun e w' => e = .returned (.bool true) ∧ Below w.heap.size w w' := by
  have HB := fun w => (id (bytes_so (some ⟨b, off, none⟩) n c w (by unfold maxLen; omega)) : Hid (Calls _ _ _ _ _))
  have hd : decide (n ≤ 1048576) = true := decide_eq_true (by omega)
  simp only [hd] at HB
  have e0 : ((n : Int) == 0) = false := by rw [beq_eq_false_iff_ne]; omega
  have hmk2 := run_make_row' (P := Try.prog) 34 3 (.int .i64 0) 8 Try.underlying34 Try.info3 rfl .i64 .i64 n (by omega) (by omega)
  have hmk3 := run_make_row' (P := Try.prog) 29 4 (.bool false) 1 Try.underlying29 Try.info4 rfl .i64 .i64 n (by omega) (by omega)
  have HC := (id (copy64_some b off n c P w hn (by omega) hP) : Hid (Calls _ _ _ _ _))
  have H0 : Hid (∀ i, i < n → 0 ≤ P i ∧ P i < 18446744073709551616) := hP0
  clear hP hP0 hd
  go_enter Try.func8, Try.ntmps8
  go_wp2_with fail
  refine (HB _).out.mono ?_
  rintro e w' ⟨rfl, rfl⟩
  clear HB
  go_wp2_with fail
  refine HC.out.mono ?_
  rintro e w1 ⟨rfl, hb1, hrP⟩
  clear HC
  have hl1 := hrP.lt
  go_wp2_with fail
  go_loopw [5] (fun i wr => ∃ k : Nat, k ≤ n ∧ i = .int .i64 k ∧ Below w1.heap.size w1 wr ∧ wr.rowIs w1.heap.size 3 n (part k (fun i => .int .i64 (i : Int)) (.int .i64 0))) (fun i _ => n - (intOf i).toNat)
  case atStart => exact ⟨0, Nat.zero_le _, rfl, (Below.refl _ _).alloc (Nat.le_refl _) _, part_start (World.rowIs_made _ _ _ _)⟩
  case round =>
    obtain ⟨k, hk, rfl, hb, hr⟩ := hrel
    by_cases hlt : k < n
    · have hd := hr.cell hlt
      have hf := hr.frozen k
      go_wp2
      go_roundw
      case rel => exact ⟨k + 1, by omega, by go_num, hb.setCell (Nat.le_refl _) _, part_set (f := fun i => .int .i64 (i : Int)) hr⟩
      case measure => simp [intOf]; omega
    · obtain rfl : n = k := by omega
      have hrA := part_end hr
      have hrP2 := hrP.of_block (hb.block _ hl1)
      have hbw : Below w.heap.size w wr := hb1.trans (hb.mono (by omega))
      clear hr hrP hb1 hb
      go_wp2_with fail
      refine (zzsort_any w.heap.size 0 n w1.heap.size 0 n n P (fun i => (i : Int)) wr hn hn2 H0.out (fun i hi => by rw [Nat.zero_add]; exact hrP2.cell hi) (fun i hi => by rw [Nat.zero_add]; exact hrA.cell hi)).mono ?_
      rintro e w2 ⟨b1, b2, G, rfl, hst, hg1, hg2, hlb1, hlb2, hbel2⟩
      obtain ⟨hf1, hf2⟩ := stable_facts H0.out hst
      have HF1 : Hid (∀ k, k < n → ∃ a : Nat, a < n ∧ (G k).2 = (a : Int) ∧ (G k).1 = P a) := hf1
      have HF2 : Hid (∀ i j, i < j → j < n → (G i).1 < (G j).1 ∨ ((G i).1 = (G j).1 ∧ (G i).2 < (G j).2)) := hf2
      have hlw := hbw.size
      have hlP := hrP2.lt
      have hrP3 := hrP2.of_block (hbel2.block _ hlP)
      have hbw2 : Below w.heap.size w w2 := hbw.trans (hbel2.mono (by omega))
      have hl21 := hg1.lt
      have hl22 := hg2.lt
      have hl23 := hrP3.lt
      clear hst hf1 hf2 hrA hrP2 hbw hbel2
      go_wp2_with fail
      go_loopw [9] (fun i wi => ∃ k : Nat, k ≤ n ∧ i = .int .i64 k ∧ Below w2.heap.size w2 wi ∧ Hid (Seen w n w2.heap.size k G wi)) (fun i _ => n - (intOf i).toNat)
      case atStart =>
        refine ⟨0, Nat.zero_le _, rfl, (Below.refl _ _).alloc (Nat.le_refl _) _, ⟨fun _ => false, World.rowIs_made _ _ _ _, fun v hv => by simp at hv, hbw2.alloc (by have := hbw2.size; omega) _⟩⟩
      case round =>
        obtain ⟨k, hk, rfl, hbk, hse⟩ := hrel
        by_cases hlt : k < n
        · obtain ⟨a, ha, hga2, hga1⟩ := HF1.out k hlt
          have c1 : wr.cell? ⟨b1, k, none⟩ = some (.int .u64 (P a)) := by rw [hbk.cell (by exact hl21), hg1.cell hlt, hga1]
          have c2 : wr.cell? ⟨b2, k, none⟩ = some (.int .i64 (a : Int)) := by rw [hbk.cell (by exact hl22), hg2.cell hlt, hga2]
          have c3 : wr.cell? ⟨w.heap.size, a, none⟩ = some (.int .u64 (P a)) := by rw [hbk.cell (by exact hl23), hrP3.cell ha]
          obtain ⟨fs, hs1, hs2, hs3⟩ := hse.out
          have hfa : fs a = false := by
            cases hq : fs a with
            | false => rfl
            | true =>
              exfalso
              obtain ⟨i, hi, ei⟩ := hs2 a hq
              obtain ⟨a', _, e2, e1⟩ := HF1.out i (by omega)
              have : a' = a := by omega
              subst this
              rcases HF2.out i k hi hlt with h | ⟨_, h⟩
              · rw [e1, hga1] at h; omega
              · omega
          have c4 : wr.cell? ⟨w2.heap.size, a, none⟩ = some (.bool false) := by rw [hs1.cell ha, hfa]
          have f4 := hs1.frozen a
          have HS : Hid (Seen w n w2.heap.size (k + 1) G (wr.setCell ⟨w2.heap.size, a, none⟩ (.bool true))) := by
            refine ⟨fun v => if v = a then true else fs v, (hs1.set a (.bool true)).congr ?_, ?_, hs3.setCell (by show w.heap.size ≤ w2.heap.size; exact hbw2.size) _⟩
            · intro i hi
              by_cases e : i = a <;> simp [e]
            · intro v hv
              by_cases e : v = a
              · exact ⟨k, by omega, by rw [e, hga2]⟩
              · simp only [if_neg e] at hv
                obtain ⟨i, hi, ei⟩ := hs2 v hv
                exact ⟨i, by omega, ei⟩
          have hbk2 : Below w2.heap.size w2 (wr.setCell ⟨w2.heap.size, a, none⟩ (.bool true)) := hbk.setCell (Nat.le_refl _) _
          clear hs1 hs2 hs3 hfa hse
          by_cases hk0 : k = 0
          · subst hk0
            go_wp2_with fail
            go_quiet (fail)
            go_wp2_with fail
            go_roundw
            case rel => exact ⟨1, by omega, by go_num, below_drewN hbk2 _, Seen.drewN HS.out _⟩
            case measure => simp [intOf]; omega
          · have hkp : 0 < k := by omega
            have c5 : wr.cell? ⟨b1, k - 1, none⟩ = some (.int .u64 (G (k - 1)).1) := by rw [hbk.cell (by exact hl21), hg1.cell (by omega)]
            have c6 : wr.cell? ⟨b2, k - 1, none⟩ = some (.int .i64 (G (k - 1)).2) := by rw [hbk.cell (by exact hl22), hg2.cell (by omega)]
            have hor := HF2.out (k - 1) k (by omega) hlt
            rw [hga1, hga2] at hor
            obtain ⟨q0, hq0⟩ : ∃ q, q = (G (k - 1)).1 := ⟨_, rfl⟩
            obtain ⟨a0, ha0⟩ : ∃ q, q = (G (k - 1)).2 := ⟨_, rfl⟩
            rw [← hq0] at c5 hor
            rw [← ha0] at c6 hor
            clear hq0 ha0 hk0 hga1 hga2
            rcases hor with hor | ⟨hor, hor2⟩
            · have d1 : (q0 == P a) = false := by rw [beq_eq_false_iff_ne]; omega
              go_wp2_with fail
              go_quiet (fail)
              go_wp2_with fail
              go_quiet (fail)
              go_wp2_with fail
              go_quiet (fail)
              go_wp2_with fail
              go_roundw
              case rel => exact ⟨k + 1, by omega, by go_num, below_drewN hbk2 _, Seen.drewN HS.out _⟩
              case measure => simp [intOf]; omega
            · subst hor
              go_wp2_with fail
              go_quiet (fail)
              go_wp2_with fail
              go_quiet (fail)
              go_wp2_with fail
              go_quiet (fail)
              go_wp2_with fail
              go_roundw
              case rel => exact ⟨k + 1, by omega, by go_num, below_drewN hbk2 _, Seen.drewN HS.out _⟩
              case measure => simp [intOf]; omega
        · obtain rfl : n = k := by omega
          obtain ⟨fs, hs1, hs2, hs3⟩ := hse.out
          clear hs1 hs2 hse
          go_wp2
          go_ret
          exact ⟨rfl, hs3⟩
end Go.Proofs.Qxb6600323a
