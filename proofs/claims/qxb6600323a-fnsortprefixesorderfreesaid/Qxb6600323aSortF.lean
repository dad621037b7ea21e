import Derived.Test.Qxb6600323aSortD
namespace Go.Proofs.Qxb6600323a
open Go.RowKit

theorem seq_fst {n : Nat} {F G : Nat → Int × Int} (h : (Seq n G).Perm (Seq n F)) : ((List.range n).map (fun i => (G i).1)).Perm ((List.range n).map (fun i => (F i).1)) := by
  have := h.map Prod.fst
  simpa [Seq, Function.comp_def] using this
theorem seq_le {n : Nat} {F G : Nat → Int × Int} (hF : ∀ i, i < n → 0 ≤ (F i).1 ∧ (F i).1 < 18446744073709551616) (h : St n F 8 G) : ((List.range n).map (fun i => (G i).1)).Pairwise (· ≤ ·) := by
  have := st_end hF h (fun _ _ => True) (fun _ _ _ _ => trivial)
  rw [List.pairwise_iff_getElem]
  intro i j hi hj hij
  simp only [List.length_map, List.length_range] at hi hj
  simp only [List.getElem_map, List.getElem_range]
  rcases this i j hij hj with h | ⟨h, _⟩ <;> omega
theorem rev_perm (n : Nat) (P : Nat → Int) : ((List.range n).map (fun i => P (n - 1 - i))).Perm ((List.range n).map P) := by
  have : (List.range n).map (fun i => P (n - 1 - i)) = ((List.range n).map P).reverse := by
    apply List.ext_getElem
    · simp
    · intro i h1 h2
      simp
  rw [this]
  exact List.reverse_perm _
/-- The plain law: both sorts give one sequence. -/
theorem free_facts {n : Nat} {P : Nat → Int} (hP : ∀ i, i < n → 0 ≤ P i ∧ P i < 18446744073709551616) {G1 G2 : Nat → Int × Int} (h1 : St n (fun i => (P i, 0)) 8 G1) (h2 : St n (fun i => (P (n - 1 - i), 0)) 8 G2) :
    ∀ i, i < n → (G1 i).1 = (G2 i).1 := by
  have p1 := seq_fst h1.1
  have p2 := seq_fst h2.1
  have p : ((List.range n).map (fun i => (G1 i).1)).Perm ((List.range n).map (fun i => (G2 i).1)) := p1.trans ((p2.trans (rev_perm n P)).symm)
  have l1 := seq_le (F := fun i => (P i, 0)) hP h1
  have l2 := seq_le (F := fun i => (P (n - 1 - i), 0)) (fun i hi => hP _ (by omega)) h2
  have e := p.eq_of_pairwise (fun a b _ _ hab hba => by omega) l1 l2
  intro i hi
  have := congrArg (fun l => l[i]?) e
  simpa [hi] using this

theorem bytes_of (a : Option Addr) (n c : Nat) (w : World) (hn : n ≤ maxLen) :
    Calls Try.prog 35 #[.slice a n c] w fun e w' => e = .returned (.bool (decide (n ≤ 1048576))) ∧ w = w' := by
  unfold maxLen at hn
  by_cases h : n ≤ 1048576
  · rw [decide_eq_true h]
    have h1 : ¬ (1048576 : Int) < (n : Int) := by omega
    go_enter Try.func35, Try.ntmps35
    go_wp2
    go_ret
    exact ⟨rfl, rfl⟩
  · rw [decide_eq_false h]
    have h1 : (1048576 : Int) < (n : Int) := by omega
    go_enter Try.func35, Try.ntmps35
    go_wp2
    go_ret
    exact ⟨rfl, rfl⟩

/-- More than 2^20, more than 2^17, or none. -/
theorem of_easy (a : Option Addr) (n c : Nat) (w : World) (hn : n ≤ maxLen) (h : 131072 < n ∨ n = 0) :
    Calls Try.prog 9 #[.slice a n c] w fun e w' => e = .returned (.bool true) ∧ Below w.heap.size w w' := by
  have HB := fun w => (id (bytes_of a n c w hn) : Hid (Calls _ _ _ _ _))
  unfold maxLen at hn
  cases hd : decide (n ≤ 1048576) with
  | false =>
    simp only [hd] at HB
    clear hd
    go_enter Try.func9, Try.ntmps9
    go_wp2_with fail
    refine (HB _).out.mono ?_
    rintro e w' ⟨rfl, rfl⟩
    go_wp2
    go_ret
    exact ⟨rfl, Below.refl _ _⟩
  | true =>
    simp only [hd] at HB
    clear hd
    rcases h with h | rfl
    · go_enter Try.func9, Try.ntmps9
      go_wp2_with fail
      refine (HB _).out.mono ?_
      rintro e w' ⟨rfl, rfl⟩
      go_wp2
      go_ret
      exact ⟨rfl, Below.refl _ _⟩
    · go_enter Try.func9, Try.ntmps9
      go_wp2_with fail
      refine (HB _).out.mono ?_
      rintro e w' ⟨rfl, rfl⟩
      go_wp2
      go_ret
      exact ⟨rfl, Below.refl _ _⟩

set_option maxRecDepth 100000 in
set_option maxHeartbeats 1000000 in
theorem of_main (b off n c : Nat) (P : Nat → Int) (w : World) (hn : 1 ≤ n) (hn2 : n ≤ 131072) (hP0 : ∀ i, i < n → 0 ≤ P i ∧ P i < 18446744073709551616)
    (hP : ∀ i, i < n → w.cell? ⟨b, off + i, none⟩ = some (.int .u64 (P i))) :
    Calls Try.prog 9 #[.slice (some ⟨b, off, none⟩) n c] w fun e w' => e = .returned (.bool true) ∧ Below w.heap.size w w' := by
  have HB := fun w => (id (bytes_of (some ⟨b, off, none⟩) n c w (by unfold maxLen; omega)) : Hid (Calls _ _ _ _ _))
  have hd : decide (n ≤ 1048576) = true := decide_eq_true (by omega)
  simp only [hd] at HB
  have e0 : ((n : Int) == 0) = false := by rw [beq_eq_false_iff_ne]; omega
  have hmk1 := run_make_row' (P := Try.prog) 53 58 (.int .u64 0) 8 Try.underlying53 Try.info58 rfl .i64 .i64 n (by omega) (by omega)
  have hmk2 := run_make_row' (P := Try.prog) 34 3 (.int .i64 0) 8 Try.underlying34 Try.info3 rfl .i64 .i64 n (by omega) (by omega)
  have HC := (id (copy64_some b off n c P w hn (by omega) hP) : Hid (Calls _ _ _ _ _))
  have H0 : Hid (∀ i, i < n → 0 ≤ P i ∧ P i < 18446744073709551616) := hP0
  clear hP hP0 hd
  go_enter Try.func9, Try.ntmps9
  go_wp2_with fail
  refine (HB _).out.mono ?_
  rintro e w' ⟨rfl, rfl⟩
  clear HB
  go_wp2_with fail
  refine HC.out.mono ?_
  rintro e w1 ⟨rfl, hb1, hrP⟩
  clear HC
  have hl1 := hrP.lt
  go_wp2_with fail
  go_loopw [5] (fun i wr => ∃ k : Nat, k ≤ n ∧ i = .int .i64 k ∧ Below w1.heap.size w1 wr ∧ wr.rowIs w1.heap.size 58 n (part k (fun i => .int .u64 (P (n - 1 - i))) (.int .u64 0))) (fun i _ => n - (intOf i).toNat)
  case atStart => exact ⟨0, Nat.zero_le _, rfl, (Below.refl _ _).alloc (Nat.le_refl _) _, part_start (World.rowIs_made _ _ _ _)⟩
  case round =>
    obtain ⟨k, hk, rfl, hb, hr⟩ := hrel
    by_cases hlt : k < n
    · have hd := hr.cell hlt
      have hf := hr.frozen k
      have hc : wr.cell? ⟨w.heap.size, n - 1 - k, none⟩ = some (.int .u64 (P (n - 1 - k))) := by rw [hb.cell (by exact hl1), hrP.cell (by omega)]
      go_wp2
      go_roundw
      case rel => exact ⟨k + 1, by omega, by go_num, hb.setCell (Nat.le_refl _) _, part_set (f := fun i => .int .u64 (P (n - 1 - i))) hr⟩
      case measure => simp [intOf]; omega
    · obtain rfl : n = k := by omega
      have hrR := part_end hr
      have hrP2 := hrP.of_block (hb.block _ hl1)
      have hbw : Below w.heap.size w wr := hb1.trans (hb.mono (by omega))
      have hlw := hbw.size
      clear hr hrP hb1 hb
      have hz := World.rowIs_made wr (.int .i64 0) n 3
      have hP3 := hrP2.alloc (.cells (madeCells #[.int .i64 0] n) 3)
      have hR3 := hrR.alloc (.cells (madeCells #[.int .i64 0] n) 3)
      have hbw3 := hbw.alloc hlw (.cells (madeCells #[.int .i64 0] n) 3)
      go_wp2_with fail
      refine (zzsort_any w.heap.size 0 n wr.heap.size 0 n n P (fun _ => 0) _ hn hn2 H0.out (fun i hi => by rw [Nat.zero_add]; exact hP3.cell hi) (fun i hi => by rw [Nat.zero_add]; exact hz.cell hi)).mono ?_
      rintro e w2 ⟨b1, b2, G1, rfl, hst1, hg1, _, hlb1, hlb2, hbel2⟩
      have hz2 := hz.of_block (hbel2.block _ hz.lt)
      have hR4 := hR3.of_block (hbel2.block _ hR3.lt)
      have hbw4 := hbw3.trans (hbel2.mono (by simp; omega))
      have HST1 : Hid (St n (fun i => (P i, 0)) 8 G1) := hst1
      clear hst1 hbel2 hz hP3 hR3 hbw3 hrP2 hrR
      have H0' : Hid (∀ i, i < n → 0 ≤ P (n - 1 - i) ∧ P (n - 1 - i) < 18446744073709551616) := fun i hi => H0.out _ (by omega)
      go_wp2_with fail
      refine (zzsort_any w1.heap.size 0 n wr.heap.size 0 n n (fun i => P (n - 1 - i)) (fun _ => 0) _ hn hn2 H0'.out (fun i hi => by rw [Nat.zero_add]; exact hR4.cell hi) (fun i hi => by rw [Nat.zero_add]; exact hz2.cell hi)).mono ?_
      rintro e w3 ⟨b3, b4, G2, rfl, hst2, hg3, _, hlb3, hlb4, hbel3⟩
      have HF : Hid (∀ i, i < n → (G1 i).1 = (G2 i).1) := free_facts H0.out HST1.out hst2
      have hg1' := hg1.of_block (hbel3.block _ hg1.lt)
      have hbw5 := hbw4.trans (hbel3.mono (by have := hbw4.size; omega))
      clear hst2 hbel3 hg1 HST1 hbw4 hz2 hR4
      go_wp2_with fail
      go_loopw [11] (fun i wi => ∃ k m : Nat, k ≤ n ∧ i = .int .i64 k ∧ w3.drewN m = wi) (fun i _ => n - (intOf i).toNat)
      case atStart => exact ⟨0, 0, Nat.zero_le _, rfl, rfl⟩
      case round =>
        obtain ⟨k, m, hk, rfl, rfl⟩ := hrel
        by_cases hlt : k < n
        · have c1 : w3.cell? ⟨b1, k, none⟩ = some (.int .u64 (G1 k).1) := hg1'.cell hlt
          have c2 : w3.cell? ⟨b3, k, none⟩ = some (.int .u64 (G1 k).1) := by rw [hg3.cell hlt, HF.out k hlt]
          go_wp2_with fail
          go_quiet (fail)
          go_wp2_with fail
          go_roundw
          case rel => exact ⟨k + 1, _, by omega, by go_num, rfl⟩
          case measure => simp [intOf]; omega
        · go_wp2
          go_ret
          exact ⟨rfl, below_drewN hbw5 _⟩
end Go.Proofs.Qxb6600323a
