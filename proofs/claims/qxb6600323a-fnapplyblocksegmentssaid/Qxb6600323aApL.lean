import Derived.Test.Qxb6600323aApK
namespace Go.Proofs.Qxb6600323a
open Go.RowKit
set_option linter.unusedVariables false

theorem Try.info9C : (Try.prog.info? 9).map (fun i => (i.zero, i.size, i.bytes)) = some (some (.string ⟨#[]⟩), 1, 16) := by kernel_rfl
theorem Try.info5C : (Try.prog.info? 5).map (fun i => (i.zero, i.size, i.bytes)) = some (some (.int .u8 0), 1, 1) := by kernel_rfl
theorem Try.info28C : (Try.prog.info? 28).map (fun i => (i.zero, i.size, i.bytes)) = some (some (.slice none 0 0), 1, 24) := by kernel_rfl
theorem Try.info39C : (Try.prog.info? 39).map (fun i => (i.zero, i.size, i.bytes)) = some (some (.slice none 0 0), 1, 24) := by kernel_rfl

def ValsAt (w : World) (a : Option Addr) (n : Nat) (f : Nat → Value) : Prop := 0 < n → ∃ b off, a = some ⟨b, off, none⟩ ∧ ∀ i, i < n → w.cell? ⟨b, off + i, none⟩ = some (f i)
theorem ValsAt.below {w w' : World} {a : Option Addr} {n : Nat} {f : Nat → Value} (h : ValsAt w a n f) (hb : Below w.heap.size w w') : ValsAt w' a n f := by
  intro hn
  obtain ⟨b, off, e, hc⟩ := h hn
  exact ⟨b, off, e, fun i hi => by rw [hb.cell (by exact World.block_lt_of_cell? w _ (hc i hi))]; exact hc i hi⟩
/-- A slice of the call's own. -/
def RowV (w : World) (a : Option Addr) (n c t : Nat) (f : Nat → Value) : Prop :=
  (a = none ∧ n = 0 ∧ c = 0) ∨ ∃ b, a = some ⟨b, 0, none⟩ ∧ c = n ∧ w.rowIs b t n f
theorem RowV.at {w : World} {a : Option Addr} {n c t : Nat} {f : Nat → Value} (h : RowV w a n c t f) : ValsAt w a n f := by
  rcases h with ⟨_, q, _⟩ | ⟨b, rfl, _, hr⟩
  · intro h; omega
  · exact fun _ => ⟨b, 0, rfl, fun i hi => by rw [Nat.zero_add]; exact hr.cell hi⟩
theorem RowV.below {w w' : World} {a : Option Addr} {n c t : Nat} {f : Nat → Value} (h : RowV w a n c t f) (hb : Below w.heap.size w w') : RowV w' a n c t f := by
  rcases h with q | ⟨b, q1, q2, hr⟩
  · exact .inl q
  · exact .inr ⟨b, q1, q2, hr.of_block (hb.block _ hr.lt)⟩
theorem RowV.setRow {w : World} {a : Option Addr} {n c t : Nat} {f : Nat → Value} (h : RowV w a n c t f) {b' t' n' : Nat} {f' : Nat → Value} (hr : w.rowIs b' t' n' f') (ht : t' ≠ t) (i : Nat) (v : Value) : RowV (w.setCell ⟨b', i, none⟩ v) a n c t f := by
  rcases h with q | ⟨b, q1, q2, q3⟩
  · exact .inl q
  · exact .inr ⟨b, q1, q2, q3.setOther (by exact row_ne q3 hr (fun e => ht e.symm)) v⟩

/-- function 20. -/
theorem copyStr_any (a : Option Addr) (n c : Nat) (z : Nat → ByteArray) (w : World) (hn : n ≤ 1048576) (hs : ValsAt w a n (fun i => .string (z i))) :
    Calls Try.prog 20 #[.slice a n c] w fun e w' => ∃ a' c', e = .returned (.slice a' n c') ∧ RowV w' a' n c' 9 (fun i => .string (z i)) ∧ Below w.heap.size w w' := by
  cases a with
  | none =>
    have hn0 : n = 0 := by
      rcases Nat.eq_zero_or_pos n with h | h
      · exact h
      · obtain ⟨_, _, e, _⟩ := hs h
        cases e
    subst hn0
    have hq := fun (w : World) => Lib.run_eql_slice_nil (P := Try.prog) w 28 9 none 0 c 0 0 Try.underlying28
    clear hs
    go_enter Try.func20, Try.ntmps20
    go_wp2
    go_ret
    exact ⟨none, 0, rfl, .inl ⟨rfl, rfl, rfl⟩, Below.refl _ _⟩
  | some x =>
    have hq := fun (w : World) => Lib.run_eql_slice_nil (P := Try.prog) w 28 9 (some x) n c 0 0 Try.underlying28
    have hmk := run_make_row' (P := Try.prog) 28 9 (.string ⟨#[]⟩) 16 Try.underlying28 Try.info9C rfl .i64 .i64 n (by omega) (by omega)
    have HS := (id hs : Hid (ValsAt _ _ _ _))
    clear hs
    go_enter Try.func20, Try.ntmps20
    go_wp2
    go_loopw [4] (fun i wr => ∃ k : Nat, k ≤ n ∧ i = .int .i64 k ∧ Below w.heap.size w wr ∧ wr.rowIs w.heap.size 9 n (partR k (fun i => .string (z i)) (.string ⟨#[]⟩))) (fun i _ => n - (intOf i).toNat)
    case atStart => exact ⟨0, Nat.zero_le _, rfl, (Below.refl _ _).alloc (Nat.le_refl _) _, partR_start (World.rowIs_made _ _ _ _)⟩
    case round =>
      obtain ⟨k, hk, rfl, hb, hr⟩ := hrel
      by_cases hlt : k < n
      · obtain ⟨b, off, e, hcell⟩ := HS.out (by omega)
        obtain rfl := Option.some.inj e
        have hc : wr.cell? ⟨b, off + k, none⟩ = some (.string (z k)) := (hb.cell (by exact World.block_lt_of_cell? w _ (hcell k hlt))).trans (hcell k hlt)
        have hd := hr.cell hlt
        have hf := hr.frozen k
        clear hcell HS e
        go_wp2
        go_roundw
        case rel => exact ⟨k + 1, by omega, by go_num, hb.setCell (Nat.le_refl _) _, partR_set (f := (fun i => .string (z i))) hr⟩
        case measure => simp [intOf]; omega
      · obtain rfl : n = k := by omega
        go_wp2
        go_ret
        exact ⟨_, _, rfl, .inr ⟨_, rfl, rfl, partR_end hr⟩, hb⟩

/-- function 21. -/
theorem copyU8_any (a : Option Addr) (n c : Nat) (z : Nat → Int) (w : World) (hn : n ≤ 1048576) (hs : ValsAt w a n (fun i => .int .u8 (z i))) :
    Calls Try.prog 21 #[.slice a n c] w fun e w' => ∃ a' c', e = .returned (.slice a' n c') ∧ RowV w' a' n c' 5 (fun i => .int .u8 (z i)) ∧ Below w.heap.size w w' := by
  cases a with
  | none =>
    have hn0 : n = 0 := by
      rcases Nat.eq_zero_or_pos n with h | h
      · exact h
      · obtain ⟨_, _, e, _⟩ := hs h
        cases e
    subst hn0
    have hq := fun (w : World) => Lib.run_eql_slice_nil (P := Try.prog) w 39 5 none 0 c 0 0 Try.underlying39
    clear hs
    go_enter Try.func21, Try.ntmps21
    go_wp2
    go_ret
    exact ⟨none, 0, rfl, .inl ⟨rfl, rfl, rfl⟩, Below.refl _ _⟩
  | some x =>
    have hq := fun (w : World) => Lib.run_eql_slice_nil (P := Try.prog) w 39 5 (some x) n c 0 0 Try.underlying39
    have hmk := run_make_row' (P := Try.prog) 39 5 (.int .u8 0) 1 Try.underlying39 Try.info5C rfl .i64 .i64 n (by omega) (by omega)
    have HS := (id hs : Hid (ValsAt _ _ _ _))
    clear hs
    go_enter Try.func21, Try.ntmps21
    go_wp2
    go_loopw [4] (fun i wr => ∃ k : Nat, k ≤ n ∧ i = .int .i64 k ∧ Below w.heap.size w wr ∧ wr.rowIs w.heap.size 5 n (partR k (fun i => .int .u8 (z i)) (.int .u8 0))) (fun i _ => n - (intOf i).toNat)
    case atStart => exact ⟨0, Nat.zero_le _, rfl, (Below.refl _ _).alloc (Nat.le_refl _) _, partR_start (World.rowIs_made _ _ _ _)⟩
    case round =>
      obtain ⟨k, hk, rfl, hb, hr⟩ := hrel
      by_cases hlt : k < n
      · obtain ⟨b, off, e, hcell⟩ := HS.out (by omega)
        obtain rfl := Option.some.inj e
        have hc : wr.cell? ⟨b, off + k, none⟩ = some (.int .u8 (z k)) := (hb.cell (by exact World.block_lt_of_cell? w _ (hcell k hlt))).trans (hcell k hlt)
        have hd := hr.cell hlt
        have hf := hr.frozen k
        clear hcell HS e
        go_wp2
        go_roundw
        case rel => exact ⟨k + 1, by omega, by go_num, hb.setCell (Nat.le_refl _) _, partR_set (f := (fun i => .int .u8 (z i))) hr⟩
        case measure => simp [intOf]; omega
      · obtain rfl : n = k := by omega
        go_wp2
        go_ret
        exact ⟨_, _, rfl, .inr ⟨_, rfl, rfl, partR_end hr⟩, hb⟩

set_option maxRecDepth 100000 in
set_option maxHeartbeats 400000 in
/-- function 13. -/
theorem copyStr2_any (a : Option Addr) (n c : Nat) (aI : Nat → Option Addr) (nI cI : Nat → Nat) (kk : Nat → Nat → ByteArray) (w : World) (hn : n ≤ 1048576) (hnI : ∀ i, i < n → nI i ≤ 1048576) (hs : KeysAt w a n aI nI cI kk) :
    Calls Try.prog 13 #[.slice a n c] w fun e w' => ∃ a' c' aI' cI', e = .returned (.slice a' n c') ∧ KeysAt w' a' n aI' nI cI' kk ∧ Below w.heap.size w w' := by
  cases a with
  | none =>
    have hn0 : n = 0 := by
      rcases Nat.eq_zero_or_pos n with h | h
      · exact h
      · obtain ⟨_, _, e, _⟩ := hs h
        cases e
    subst hn0
    have hq := fun (w : World) => Lib.run_eql_slice_nil (P := Try.prog) w 22 28 none 0 c 0 0 Try.underlying22
    clear hs hnI
    go_enter Try.func13, Try.ntmps13
    go_wp2
    go_ret
    exact ⟨none, 0, fun _ => none, fun _ => 0, rfl, fun h => absurd h (Nat.lt_irrefl 0), Below.refl _ _⟩
  | some x =>
    have hq := fun (w : World) => Lib.run_eql_slice_nil (P := Try.prog) w 22 28 (some x) n c 0 0 Try.underlying22
    have hmk := run_make_row' (P := Try.prog) 22 28 (.slice none 0 0) 24 Try.underlying22 Try.info28C rfl .i64 .i64 n (by omega) (by omega)
    have HS := (id hs : Hid (KeysAt _ _ _ _ _ _ _))
    have HI := (id hnI : Hid _)
    clear hs hnI
    go_enter Try.func13, Try.ntmps13
    go_wp2
    go_loopw [4] (fun i wr => ∃ k : Nat, k ≤ n ∧ i = .int .i64 k ∧ Below w.heap.size w wr ∧ Hid (∃ (aI' : Nat → Option Addr) (cI' : Nat → Nat), wr.rowIs w.heap.size 28 n (partR k (fun i => .slice (aI' i) (nI i) (cI' i)) (.slice none 0 0)) ∧ ∀ i, i < k → RowV wr (aI' i) (nI i) (cI' i) 9 (fun q => .string (kk i q)))) (fun i _ => n - (intOf i).toNat)
    case atStart => exact ⟨0, Nat.zero_le _, rfl, (Below.refl _ _).alloc (Nat.le_refl _) _, ⟨fun _ => none, fun _ => 0, partR_start (World.rowIs_made _ _ _ _), fun i hi => by omega⟩⟩
    case round =>
      obtain ⟨k, hk, rfl, hb, hg⟩ := hrel
      obtain ⟨aI', cI', hr, hri⟩ := hg.out
      by_cases hlt : k < n
      · obtain ⟨b, off, e, hcell⟩ := HS.out (by omega)
        obtain rfl := Option.some.inj e
        have hc : wr.cell? ⟨b, off + k, none⟩ = some (.slice (aI k) (nI k) (cI k)) := (hb.cell (by exact World.block_lt_of_cell? w _ (hcell k hlt).1)).trans (hcell k hlt).1
        have hv : ValsAt w (aI k) (nI k) (fun q => .string (kk k q)) := (hcell k hlt).2
        have HCP := (id (copyStr_any (aI k) (nI k) (cI k) (kk k) wr (HI.out k hlt) (fun hq0 => by
          obtain ⟨b', off', e', hc'⟩ := hv hq0
          exact ⟨b', off', e', fun q hq => by rw [hb.cell (by exact World.block_lt_of_cell? w _ (hc' q hq))]; exact hc' q hq⟩)) : Hid (Calls _ _ _ _ _))
        have HG : Hid (wr.rowIs w.heap.size 28 n (partR k (fun i => .slice (aI' i) (nI i) (cI' i)) (.slice none 0 0)) ∧ ∀ i, i < k → RowV wr (aI' i) (nI i) (cI' i) 9 (fun q => .string (kk i q))) := ⟨hr, hri⟩
        have hsz := hr.lt
        clear hcell HS hg hr hri e hv
        go_wp2_with fail
        refine HCP.out.mono ?_
        rintro e w2 ⟨a2, c2, rfl, hr2, hb2⟩
        have hrow2 := HG.out.1.of_block (hb2.block _ HG.out.1.lt)
        have hd := hrow2.cell hlt
        have hf := hrow2.frozen k
        have hbw2 : Below w.heap.size w w2 := hb.trans (hb2.mono (by omega))
        have HN : Hid (∃ (aI' : Nat → Option Addr) (cI' : Nat → Nat), (w2.setCell ⟨w.heap.size, k, none⟩ (.slice a2 (nI k) c2)).rowIs w.heap.size 28 n (partR (k + 1) (fun i => .slice (aI' i) (nI i) (cI' i)) (.slice none 0 0)) ∧ ∀ i, i < k + 1 → RowV (w2.setCell ⟨w.heap.size, k, none⟩ (.slice a2 (nI k) c2)) (aI' i) (nI i) (cI' i) 9 (fun q => .string (kk i q))) := by
          refine ⟨fun i => if i = k then a2 else aI' i, fun i => if i = k then c2 else cI' i, ?_, ?_⟩
          · have h1 := partR_congr (f' := fun i => .slice (if i = k then a2 else aI' i) (nI i) (if i = k then c2 else cI' i)) hrow2 (fun i hi => by simp [show ¬ i = k by omega])
            have h2 := partR_set h1
            simpa using h2
          · intro i hi
            by_cases e : i = k
            · subst e
              simp only [if_true]
              exact hr2.setRow hrow2 (by decide) _ _
            · simp only [if_neg e]
              exact ((HG.out.2 i (by omega)).below hb2).setRow hrow2 (by decide) _ _
        clear hrow2 hr2 HG HCP hb hb2
        go_wp2_with fail
        go_roundw
        case rel => exact ⟨k + 1, by omega, by go_num, hbw2.setCell (Nat.le_refl _) _, HN⟩
        case measure => simp [intOf]; omega
      · obtain rfl : n = k := by omega
        clear hg
        go_wp2
        go_ret
        exact ⟨_, _, aI', cI', rfl, fun _ => ⟨_, 0, rfl, fun i hi => ⟨by rw [Nat.zero_add]; exact (partR_end hr).cell hi, (hri i hi).at⟩⟩, hb⟩

set_option maxRecDepth 100000 in
set_option maxHeartbeats 400000 in
/-- function 14. -/
theorem copyU82_any (a : Option Addr) (n c : Nat) (aI : Nat → Option Addr) (nI cI : Nat → Nat) (kk : Nat → Nat → Int) (w : World) (hn : n ≤ 1048576) (hnI : ∀ i, i < n → nI i ≤ 1048576) (hs : OpsAt w a n aI nI cI kk) :
    Calls Try.prog 14 #[.slice a n c] w fun e w' => ∃ a' c' aI' cI', e = .returned (.slice a' n c') ∧ OpsAt w' a' n aI' nI cI' kk ∧ Below w.heap.size w w' := by
  cases a with
  | none =>
    have hn0 : n = 0 := by
      rcases Nat.eq_zero_or_pos n with h | h
      · exact h
      · obtain ⟨_, _, e, _⟩ := hs h
        cases e
    subst hn0
    have hq := fun (w : World) => Lib.run_eql_slice_nil (P := Try.prog) w 23 39 none 0 c 0 0 Try.underlying23
    clear hs hnI
    go_enter Try.func14, Try.ntmps14
    go_wp2
    go_ret
    exact ⟨none, 0, fun _ => none, fun _ => 0, rfl, fun h => absurd h (Nat.lt_irrefl 0), Below.refl _ _⟩
  | some x =>
    have hq := fun (w : World) => Lib.run_eql_slice_nil (P := Try.prog) w 23 39 (some x) n c 0 0 Try.underlying23
    have hmk := run_make_row' (P := Try.prog) 23 39 (.slice none 0 0) 24 Try.underlying23 Try.info39C rfl .i64 .i64 n (by omega) (by omega)
    have HS := (id hs : Hid (OpsAt _ _ _ _ _ _ _))
    have HI := (id hnI : Hid _)
    clear hs hnI
    go_enter Try.func14, Try.ntmps14
    go_wp2
    go_loopw [4] (fun i wr => ∃ k : Nat, k ≤ n ∧ i = .int .i64 k ∧ Below w.heap.size w wr ∧ Hid (∃ (aI' : Nat → Option Addr) (cI' : Nat → Nat), wr.rowIs w.heap.size 39 n (partR k (fun i => .slice (aI' i) (nI i) (cI' i)) (.slice none 0 0)) ∧ ∀ i, i < k → RowV wr (aI' i) (nI i) (cI' i) 5 (fun q => .int .u8 (kk i q)))) (fun i _ => n - (intOf i).toNat)
    case atStart => exact ⟨0, Nat.zero_le _, rfl, (Below.refl _ _).alloc (Nat.le_refl _) _, ⟨fun _ => none, fun _ => 0, partR_start (World.rowIs_made _ _ _ _), fun i hi => by omega⟩⟩
    case round =>
      obtain ⟨k, hk, rfl, hb, hg⟩ := hrel
      obtain ⟨aI', cI', hr, hri⟩ := hg.out
      by_cases hlt : k < n
      · obtain ⟨b, off, e, hcell⟩ := HS.out (by omega)
        obtain rfl := Option.some.inj e
        have hc : wr.cell? ⟨b, off + k, none⟩ = some (.slice (aI k) (nI k) (cI k)) := (hb.cell (by exact World.block_lt_of_cell? w _ (hcell k hlt).1)).trans (hcell k hlt).1
        have hv : ValsAt w (aI k) (nI k) (fun q => .int .u8 (kk k q)) := (hcell k hlt).2
        have HCP := (id (copyU8_any (aI k) (nI k) (cI k) (kk k) wr (HI.out k hlt) (fun hq0 => by
          obtain ⟨b', off', e', hc'⟩ := hv hq0
          exact ⟨b', off', e', fun q hq => by rw [hb.cell (by exact World.block_lt_of_cell? w _ (hc' q hq))]; exact hc' q hq⟩)) : Hid (Calls _ _ _ _ _))
        have HG : Hid (wr.rowIs w.heap.size 39 n (partR k (fun i => .slice (aI' i) (nI i) (cI' i)) (.slice none 0 0)) ∧ ∀ i, i < k → RowV wr (aI' i) (nI i) (cI' i) 5 (fun q => .int .u8 (kk i q))) := ⟨hr, hri⟩
        have hsz := hr.lt
        clear hcell HS hg hr hri e hv
        go_wp2_with fail
        refine HCP.out.mono ?_
        rintro e w2 ⟨a2, c2, rfl, hr2, hb2⟩
        have hrow2 := HG.out.1.of_block (hb2.block _ HG.out.1.lt)
        have hd := hrow2.cell hlt
        have hf := hrow2.frozen k
        have hbw2 : Below w.heap.size w w2 := hb.trans (hb2.mono (by omega))
        have HN : Hid (∃ (aI' : Nat → Option Addr) (cI' : Nat → Nat), (w2.setCell ⟨w.heap.size, k, none⟩ (.slice a2 (nI k) c2)).rowIs w.heap.size 39 n (partR (k + 1) (fun i => .slice (aI' i) (nI i) (cI' i)) (.slice none 0 0)) ∧ ∀ i, i < k + 1 → RowV (w2.setCell ⟨w.heap.size, k, none⟩ (.slice a2 (nI k) c2)) (aI' i) (nI i) (cI' i) 5 (fun q => .int .u8 (kk i q))) := by
          refine ⟨fun i => if i = k then a2 else aI' i, fun i => if i = k then c2 else cI' i, ?_, ?_⟩
          · have h1 := partR_congr (f' := fun i => .slice (if i = k then a2 else aI' i) (nI i) (if i = k then c2 else cI' i)) hrow2 (fun i hi => by simp [show ¬ i = k by omega])
            have h2 := partR_set h1
            simpa using h2
          · intro i hi
            by_cases e : i = k
            · subst e
              simp only [if_true]
              exact hr2.setRow hrow2 (by decide) _ _
            · simp only [if_neg e]
              exact ((HG.out.2 i (by omega)).below hb2).setRow hrow2 (by decide) _ _
        clear hrow2 hr2 HG HCP hb hb2
        go_wp2_with fail
        go_roundw
        case rel => exact ⟨k + 1, by omega, by go_num, hbw2.setCell (Nat.le_refl _) _, HN⟩
        case measure => simp [intOf]; omega
      · obtain rfl : n = k := by omega
        clear hg
        go_wp2
        go_ret
        exact ⟨_, _, aI', cI', rfl, fun _ => ⟨_, 0, rfl, fun i hi => ⟨by rw [Nat.zero_add]; exact (partR_end hr).cell hi, (hri i hi).at⟩⟩, hb⟩
end Go.Proofs.Qxb6600323a
