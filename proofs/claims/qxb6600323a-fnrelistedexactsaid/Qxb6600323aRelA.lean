import Derived.Test.Qxb6600323aMaps
namespace Go.Proofs.Qxb6600323a
open Go.RowKit

theorem Try.info59 : (Try.prog.info? 59).map (fun i => (i.zero, i.size, i.bytes)) = some (some (.pointer none), 1, 8) := by kernel_rfl
theorem Try.zero59 (w : World) : (zeroValue 59).run Try.prog w = .ok (.pointer none) w := by kernel_rfl

/-- A row that is being filled: the first k cells are laid. -/
def partR (k : Nat) (f : Nat → Value) (z : Value) (i : Nat) : Value := if i < k then f i else z
theorem partR_start {w : World} {b t n : Nat} {f : Nat → Value} {z : Value} (h : w.rowIs b t n (fun _ => z)) : w.rowIs b t n (partR 0 f z) := h.congr (fun i _ => by simp [partR])
theorem partR_set {w : World} {b t n k : Nat} {f : Nat → Value} {z : Value} (h : w.rowIs b t n (partR k f z)) : (w.setCell ⟨b, k, none⟩ (f k)).rowIs b t n (partR (k + 1) f z) := by
  refine (h.set k (f k)).congr ?_
  intro i hi
  unfold partR
  by_cases e : i = k
  · subst e; rw [if_pos rfl, if_pos (by omega)]
  · rw [if_neg e]
    by_cases e2 : i < k
    · rw [if_pos e2, if_pos (by omega)]
    · rw [if_neg e2, if_neg (by omega)]
theorem partR_end {w : World} {b t n : Nat} {f : Nat → Value} {z : Value} (h : w.rowIs b t n (partR n f z)) : w.rowIs b t n f := h.congr (fun i hi => by simp [partR, hi])
theorem partR_congr {w : World} {b t n k : Nat} {f f' : Nat → Value} {z : Value} (h : w.rowIs b t n (partR k f z)) (e : ∀ i, i < k → f i = f' i) : w.rowIs b t n (partR k f' z) :=
  h.congr (fun i _ => by unfold partR; by_cases q : i < k; · rw [if_pos q, if_pos q, e i q]
                         · rw [if_neg q, if_neg q])

def ptr (b : Nat) : Value := .pointer (some ⟨b, 0, none⟩)
/-- The cells of a section that carries its id. -/
def secF (id : Int) (i : Nat) : Value := if i < 3 then .slice none 0 0 else if i = 3 then .map none else if i = 4 then .int .i64 id else .bool true
theorem sec_made (w : World) (id : Int) : (w.alloc (.cells #[.slice none 0 0, .slice none 0 0, .slice none 0 0, .map none, .int .i64 id, .bool true] 65)).rowIs w.heap.size 65 6 (secF id) :=
  World.rowIs_alloc w #[.slice none 0 0, .slice none 0 0, .slice none 0 0, .map none, .int .i64 id, .bool true] 65 (secF id) (fun i hi => by
    match i, hi with
    | 0, _ => rfl
    | 1, _ => rfl
    | 2, _ => rfl
    | 3, _ => rfl
    | 4, _ => rfl
    | 5, _ => rfl)

/-- The sections made so far: id to block. -/
def Reg (w : World) (m : Nat) (g : Int → Option Nat) : Prop :=
  (∃ c, MapIs intKey w m (fun i => (g i).map ptr) c) ∧ ∀ i b, g i = some b → w.rowIs b 65 6 (secF i)
theorem Reg.inj {w : World} {m : Nat} {g : Int → Option Nat} (h : Reg w m g) {i j : Int} {b : Nat} (hi : g i = some b) (hj : g j = some b) : i = j := by
  have h1 := (h.2 i b hi).cell (i := 4) (by omega)
  have h2 := (h.2 j b hj).cell (i := 4) (by omega)
  rw [h1] at h2
  simpa [secF] using h2
theorem Reg.start (w : World) : Reg (w.alloc (.map #[] 0)) w.heap.size (fun _ => none) := ⟨⟨0, MapIs.made w⟩, fun i b h => by simp at h⟩
theorem Reg.lt {w : World} {m : Nat} {g : Int → Option Nat} (h : Reg w m g) : m < w.heap.size := by
  obtain ⟨⟨c, h1⟩, _⟩ := h
  exact h1.lt
theorem Reg.kept {w w' : World} {m : Nat} {g : Int → Option Nat} (h : Reg w m g) {S : Nat → Prop} (hk : Kept S w w') (hm : S m) (hs : ∀ i b, g i = some b → S b) : Reg w' m g := by
  obtain ⟨⟨c, h1⟩, h2⟩ := h
  exact ⟨⟨c, h1.of_block (hk.block _ hm)⟩, fun i b hi => (h2 i b hi).of_block (hk.block _ (hs i b hi))⟩
theorem Reg.alloc {w : World} {m : Nat} {g : Int → Option Nat} (h : Reg w m g) (o : Obj) : Reg (w.alloc o) m g := by
  obtain ⟨⟨c, h1⟩, h2⟩ := h
  exact ⟨⟨c, h1.alloc o⟩, fun i b hi => (h2 i b hi).alloc o⟩
theorem Reg.drew {w : World} {m : Nat} {g : Int → Option Nat} (h : Reg w m g) : Reg w.drew m g := h
theorem Reg.setCell {w : World} {m : Nat} {g : Int → Option Nat} (h : Reg w m g) {x t n : Nat} {f : Nat → Value} (hx : w.rowIs x t n f) (ht : t ≠ 65) (i : Nat) (v : Value) : Reg (w.setCell ⟨x, i, none⟩ v) m g := by
  obtain ⟨⟨c, h1⟩, h2⟩ := h
  exact ⟨⟨c, h1.setCell (by exact map_ne h1 hx) v⟩, fun i b hi => (h2 i b hi).setOther (by exact row_ne (h2 i b hi) hx (fun e => ht e.symm)) v⟩

/-- What comes of a list of ids. -/
def Ext (g g' : Int → Option Nat) : Prop := ∀ i b, g i = some b → g' i = some b
theorem Ext.refl (g : Int → Option Nat) : Ext g g := fun _ _ h => h
theorem Ext.trans {g g' g'' : Int → Option Nat} (h : Ext g g') (k : Ext g' g'') : Ext g g'' := fun i b q => k i b (h i b q)
def Has (g : Int → Option Nat) (n : Nat) (z : Nat → Int) : Prop := ∀ i, i < n → ∃ b, g (z i) = some b
def ptrs (g : Int → Option Nat) (z : Nat → Int) (i : Nat) : Value := ptr ((g (z i)).getD 0)
theorem ptrs_ext {g g' : Int → Option Nat} {z : Nat → Int} {n : Nat} (h : Ext g g') (hh : Has g n z) : ∀ i, i < n → ptrs g z i = ptrs g' z i := by
  intro i hi
  obtain ⟨b, hb⟩ := hh i hi
  simp [ptrs, hb, h _ _ hb]
theorem Has.ext {g g' : Int → Option Nat} {z : Nat → Int} {n : Nat} (h : Has g n z) (e : Ext g g') : Has g' n z := fun i hi => by obtain ⟨b, hb⟩ := h i hi; exact ⟨b, e _ _ hb⟩

/-- A section more. -/
theorem reg_put {wr w1 : World} {m mc : Nat} {g : Int → Option Nat} {id : Int} (hreg : Reg wr m g) (hgk : g id = none)
    (hput : ∀ g' : Int → Option Value, g' id = some (.pointer (some ⟨wr.heap.size, 0, none⟩)) → (∀ k', k' ≠ id → g' k' = (fun i => (g i).map ptr) k') → MapIs intKey w1 m g' mc)
    (hgr : (wr.alloc (.cells #[.slice none 0 0, .slice none 0 0, .slice none 0 0, .map none, .int .i64 id, .bool true] 65)).grownBy w1 (some m)) :
    ∃ g2, Reg w1 m g2 ∧ Ext g g2 ∧ g2 id = some wr.heap.size := by
  have hlm := hreg.lt
  refine ⟨fun i => if i = id then some wr.heap.size else g i, ⟨⟨mc, hput _ (by simp [ptr]) (fun k' hk' => by simp [hk'])⟩, ?_⟩, ?_, by simp⟩
  · intro i b hb
    by_cases e : i = id
    · subst e
      simp at hb
      subst hb
      exact (sec_made wr i).of_block (hgr.block _ (by simp) (fun e => by cases e; omega))
    · simp only [if_neg e] at hb
      have h1 := hreg.2 i b hb
      obtain ⟨⟨_, h2⟩, _⟩ := hreg
      exact (h1.alloc _).of_block (hgr.block _ (by have := h1.lt; simp; omega) (fun e => by cases e; exact map_ne h2 h1 rfl))
  · intro i b hb
    have : i ≠ id := fun e => by subst e; rw [hgk] at hb; cases hb
    simp [this, hb]

theorem secs_step {w wr w1 : World} {m mc n k : Nat} {g g' : Int → Option Nat} {z : Nat → Int} (hkp : Kept (fun k => k < w.heap.size ∧ k ≠ m) w wr) (hszr : w.heap.size < wr.heap.size) (hNm : w.heap.size ≠ m)
    (hx : Ext g g' ∧ Has g' k z ∧ Reg wr m g' ∧ g' (z k) = none ∧ wr.rowIs w.heap.size 59 n (partR k (ptrs g' z) (.pointer none)))
    (hput : ∀ gg : Int → Option Value, gg (z k) = some (.pointer (some ⟨wr.heap.size, 0, none⟩)) → (∀ k', k' ≠ z k → gg k' = (fun i => (g' i).map ptr) k') → MapIs intKey w1 m gg mc)
    (hgr : (wr.alloc (.cells #[.slice none 0 0, .slice none 0 0, .slice none 0 0, .map none, .int .i64 (z k), .bool true] 65)).grownBy w1 (some m)) :
    ∃ g2, Reg w1 m g2 ∧ Ext g' g2 ∧ g2 (z k) = some wr.heap.size ∧ w1.rowIs w.heap.size 59 n (partR k (ptrs g2 z) (.pointer none)) ∧ Kept (fun k => k < w.heap.size ∧ k ≠ m) w w1 := by
  obtain ⟨_, hhas, hreg, hgk, hrow⟩ := hx
  obtain ⟨g2, h1, h2, h3⟩ := reg_put hreg hgk hput hgr
  refine ⟨g2, h1, h2, h3, partR_congr ((hrow.alloc _).of_block (hgr.block _ (by simp; omega) (fun e => by cases e; exact hNm rfl))) (ptrs_ext h2 hhas), ?_⟩
  exact (hkp.alloc (fun k hk => by omega) _).grown hgr (fun k hk => ⟨by simp; omega, fun e => by cases e; exact hk.2 rfl⟩)

theorem secs_nil (n c m : Nat) (w : World) :
    Calls Try.prog 38 #[.slice none n c, .map (some m)] w fun e w' => e = .returned (.slice none 0 0) ∧ w = w' := by
  have hq := fun (w : World) => Lib.run_eql_slice_nil (P := Try.prog) w 34 3 none n c 0 0 Try.underlying34
  go_enter Try.func38, Try.ntmps38
  go_wp2
  go_ret
  exact ⟨rfl, rfl⟩

set_option maxRecDepth 100000 in
set_option maxHeartbeats 1000000 in
theorem secs_some (x : Addr) (n c m : Nat) (z : Nat → Int) (g : Int → Option Nat) (w : World) (hn : n ≤ 1048576) (hm : Reg w m g)
    (hs : 0 < n → ∃ b off, x = ⟨b, off, none⟩ ∧ b < w.heap.size ∧ b ≠ m ∧ ∀ i, i < n → w.cell? ⟨b, off + i, none⟩ = some (.int .i64 (z i))) :
    Calls Try.prog 38 #[.slice (some x) n c, .map (some m)] w fun e w' => e = .returned (.slice (some ⟨w.heap.size, 0, none⟩) n n) ∧ ∃ g', Reg w' m g' ∧ Ext g g' ∧ Has g' n z ∧
      w'.rowIs w.heap.size 59 n (ptrs g' z) ∧ Kept (fun k => k < w.heap.size ∧ k ≠ m) w w' := by
  have hq := fun (w : World) => Lib.run_eql_slice_nil (P := Try.prog) w 34 3 (some x) n c 0 0 Try.underlying34
  have hmk := run_make_row' (P := Try.prog) 60 59 (.pointer none) 8 Try.underlying60 Try.info59 rfl .i64 .i64 n (by omega) (by omega)
  have HS := (id hs : Hid _)
  have HM : Hid (Reg w m g) := hm
  have hlm := hm.lt
  clear hs hm
  go_enter Try.func38, Try.ntmps38
  go_wp2
  go_loopw [6] (fun i wr => ∃ k : Nat, k ≤ n ∧ i = .int .i64 k ∧ Kept (fun k => k < w.heap.size ∧ k ≠ m) w wr ∧ Hid (∃ g', Reg wr m g' ∧ Ext g g' ∧ Has g' k z ∧ wr.rowIs w.heap.size 59 n (partR k (ptrs g' z) (.pointer none)))) (fun i _ => n - (intOf i).toNat)
  case atStart =>
    refine ⟨0, Nat.zero_le _, rfl, (Kept.refl _ _).alloc (fun k hk => hk.1) _, ⟨g, HM.out.alloc _, Ext.refl g, fun i hi => by omega, partR_start (World.rowIs_made _ _ _ _)⟩⟩
  case round =>
    obtain ⟨k, hk, rfl, hkp, hg⟩ := hrel
    by_cases hlt : k < n
    · obtain ⟨b, off, rfl, hbl, hbm, hcell⟩ := HS.out (by omega)
      have hc : wr.cell? ⟨b, off + k, none⟩ = some (.int .i64 (z k)) := (hkp.cell (by exact ⟨hbl, hbm⟩)).trans (hcell k hlt)
      clear hcell
      obtain ⟨g', hreg, hext, hhas, hrow⟩ := hg.out
      have hszr := hrow.lt
      obtain ⟨⟨mc, hmap⟩, hsec⟩ := id hreg
      have hbr : b < wr.heap.size := by have := hkp.size; omega
      have hNm : w.heap.size ≠ m := by omega
      cases hgk : g' (z k) with
      | some sb =>
        have hv : (fun i => (g' i).map ptr) (z k) = some (.pointer (some ⟨sb, 0, none⟩)) := by simp [hgk, ptr]
        have hd := hrow.cell hlt
        have hf := hrow.frozen k
        have HR : Hid (∃ g', Reg (wr.setCell ⟨w.heap.size, k, none⟩ (.pointer (some ⟨sb, 0, none⟩))) m g' ∧ Ext g g' ∧ Has g' (k + 1) z ∧ (wr.setCell ⟨w.heap.size, k, none⟩ (.pointer (some ⟨sb, 0, none⟩))).rowIs w.heap.size 59 n (partR (k + 1) (ptrs g' z) (.pointer none))) := by
          refine ⟨g', hreg.setCell hrow (by decide) k _, hext, ?_, ?_⟩
          · intro i hi
            by_cases e : i = k
            · subst e; exact ⟨sb, hgk⟩
            · exact hhas i (by omega)
          · have := partR_set hrow
            rw [show ptrs g' z k = .pointer (some ⟨sb, 0, none⟩) by simp [ptrs, hgk, ptr]] at this
            exact this
        clear hgk hrow hsec hreg hg HS
        go_wp2_with (at_lookup; refine wpList_look_ok_some rfl rfl (int_fine Try.underlying3) Try.underlying77 Try.zero59 (z k) rfl rfl hmap hv ?_)
        go_roundw
        case rel => exact ⟨k + 1, by omega, by go_num, hkp.setCell (by rintro ⟨q, _⟩; exact absurd q (Nat.lt_irrefl _)) _, HR⟩
        case measure => simp [intOf]; omega
      | none =>
        have hv : (fun i => (g' i).map ptr) (z k) = none := by simp [hgk]
        have HX : Hid (Ext g g' ∧ Has g' k z ∧ Reg wr m g' ∧ g' (z k) = none ∧ wr.rowIs w.heap.size 59 n (partR k (ptrs g' z) (.pointer none))) := ⟨hext, hhas, hreg, hgk, hrow⟩
        clear hgk hsec hreg hg HS hext hhas hrow
        go_wp2_with (first | (at_lookup; refine wpList_look_ok_none rfl rfl (int_fine Try.underlying3) Try.underlying77 Try.zero59 (z k) rfl rfl hmap hv ?_) | (at_mapUpdate; refine wpList_put rfl rfl (int_fine Try.underlying3) Try.underlying77 (z k) _ rfl rfl rfl (hmap.alloc _) ?_; intro w1 hput hgr; obtain ⟨g2, hR2, hE2, hG2, hrow2, hkp2⟩ := secs_step hkp hszr hNm HX.out hput hgr; have hd2 := hrow2.cell hlt; have hf2 := hrow2.frozen k; clear hput hgr))
        go_roundw
        case rel =>
          refine ⟨k + 1, by omega, by go_num, hkp2.setCell (by rintro ⟨q, _⟩; exact absurd q (Nat.lt_irrefl _)) _, ⟨g2, hR2.setCell hrow2 (by decide) k _, HX.out.1.trans hE2, ?_, ?_⟩⟩
          · intro i hi
            by_cases e : i = k
            · subst e; exact ⟨_, hG2⟩
            · exact (HX.out.2.1.ext hE2) i (by omega)
          · have := partR_set hrow2
            rw [show ptrs g2 z k = .pointer (some ⟨wr.heap.size, 0, none⟩) by simp [ptrs, hG2, ptr]] at this
            exact this
        case measure => simp [intOf]; omega
    · obtain rfl : n = k := by omega
      obtain ⟨g', hreg, hext, hhas, hrow⟩ := hg.out
      clear hg HS
      go_wp2
      go_ret
      exact ⟨rfl, g', hreg, hext, hhas, partR_end hrow, hkp⟩
end Go.Proofs.Qxb6600323a
