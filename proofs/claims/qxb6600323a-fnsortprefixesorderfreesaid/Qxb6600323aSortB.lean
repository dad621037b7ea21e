import Derived.Test.Qxb6600323aSortA
namespace Go.Proofs.Qxb6600323a
open Go.RowKit

/-- The later rows of the table still hold the counts. -/
def Later (n : Nat) (F : Nat → Int × Int) (d : Nat) (fc : Nat → Value) : Prop := ∀ i, d * 256 ≤ i → i < 2048 → fc i = cntC F n i
theorem Later.next {n d : Nat} {F : Nat → Int × Int} {fc : Nat → Value} (h : Later n F d fc) : Later n F (d + 1) fc := by
  intro i hi h2
  exact h i (Nat.le_trans (Nat.mul_le_mul_right 256 (Nat.le_succ d)) hi) h2
theorem Later.at {n d v : Nat} {F : Nat → Int × Int} {fc : Nat → Value} (h : Later n F d fc) (hd : d < 8) (hv : v < 256) : fc (d * 256 + v) = .int .i64 (cnt (fun i => byteAt (F i).1 d) v n) := by
  rw [h _ (by omega) (by omega)]
  unfold cntC cntV
  rw [show (d * 256 + v) / 256 = d by omega, show (d * 256 + v) % 256 = v by omega]
theorem Later.set {n d u : Nat} {F : Nat → Int × Int} {fc : Nat → Value} (h : Later n F (d + 1) fc) (hu : u < 256) (v : Value) : Later n F (d + 1) (fun j => if j = d * 256 + u then v else fc j) := by
  intro i hi h2
  show (if i = d * 256 + u then v else fc i) = _
  rw [if_neg (by omega)]
  exact h i hi h2

/-- Between two passes. -/
def Mid (n b C : Nat) (w : World) (F : Nat → Int × Int) (d x y : Nat) (wr : World) : Prop :=
  ∃ G O fc, St n F d G ∧ wr.rowIs x 101 (n * 2) (pairC G) ∧ wr.rowIs y 101 (n * 2) (pairC O) ∧ (y = b → ∃ j, j < n ∧ F j = O 0) ∧ (x = b ∨ y = b) ∧
    x ≠ y ∧ x ≠ C ∧ y ≠ C ∧ b ≤ x ∧ b ≤ y ∧ wr.rowIs C 106 2048 fc ∧ Later n F d fc ∧ Below b w wr

/-- The first item of the list that was handed in, as it stands now. -/
theorem Mid.first {n b C d x y : Nat} {w wr : World} {F : Nat → Int × Int} (h : Mid n b C w F d x y wr) (hn : 1 ≤ n) :
    ∃ j, j < n ∧ wr.cell? ⟨b, 0, none⟩ = some (.int .u64 (F j).1) := by
  obtain ⟨G, O, fc, hst, hx, hy, hO, hxy, _⟩ := h
  rcases hxy with rfl | rfl
  · obtain ⟨j, hj, e⟩ := st_from hst 0 (by omega)
    refine ⟨j, hj, ?_⟩
    rw [e]
    have := pair_cell0 hx (q := 0) (by omega)
    simpa using this
  · obtain ⟨j, hj, e⟩ := hO rfl
    refine ⟨j, hj, ?_⟩
    rw [e]
    have := pair_cell0 hy (q := 0) (by omega)
    simpa using this
theorem Mid.count {n b C d x y v : Nat} {w wr : World} {F : Nat → Int × Int} (h : Mid n b C w F d x y wr) (hd : d < 8) (hv : v < 256) :
    wr.cell? ⟨C, d * 256 + v, none⟩ = some (.int .i64 (cnt (fun i => byteAt (F i).1 d) v n)) := by
  obtain ⟨G, O, fc, hst, hx, hy, hO, hxy, _, _, _, _, _, hC, hl, _⟩ := h
  rw [hC.cell (by omega), hl.at hd hv]
theorem Mid.skip {n b C d x y v : Nat} {w wr : World} {F : Nat → Int × Int} (h : Mid n b C w F d x y wr) (hF : ∀ i, i < n → 0 ≤ (F i).1) (hc : cnt (fun i => byteAt (F i).1 d) v n = n) : Mid n b C w F (d + 1) x y wr := by
  obtain ⟨G, O, fc, hst, hx, hy, hO, hxy, h1, h2, h3, h4, h5, hC, hl, hb⟩ := h
  exact ⟨G, O, fc, st_skip hF hst hc, hx, hy, hO, hxy, h1, h2, h3, h4, h5, hC, hl.next, hb⟩
theorem Mid.drewN {n b C d x y : Nat} {w wr : World} {F : Nat → Int × Int} (h : Mid n b C w F d x y wr) (k : Nat) : Mid n b C w F d x y (wr.drewN k) := by
  obtain ⟨G, O, fc, hst, hx, hy, hO, hxy, h1, h2, h3, h4, h5, hC, hl, hb⟩ := h
  exact ⟨G, O, fc, hst, hx, hy, hO, hxy, h1, h2, h3, h4, h5, hC, hl, below_drewN hb k⟩

/-- In a pass: the offsets are being laid. -/
def Offs (n b C : Nat) (w : World) (F G O : Nat → Int × Int) (d x y v : Nat) (wr : World) : Prop :=
  wr.rowIs x 101 (n * 2) (pairC G) ∧ wr.rowIs y 101 (n * 2) (pairC O) ∧ Below b w wr ∧ ∃ fc, wr.rowIs C 106 2048 fc ∧ Later n F (d + 1) fc ∧
    (∀ u, u < v → fc (d * 256 + u) = .int .i64 (off (fun i => byteAt (G i).1 d) n u)) ∧ (∀ u, v ≤ u → u < 256 → fc (d * 256 + u) = .int .i64 (cnt (fun i => byteAt (G i).1 d) u n))
theorem Mid.offs {n b C d x y : Nat} {w wr : World} {F : Nat → Int × Int} (h : Mid n b C w F d x y wr) (hd : d < 8) :
    ∃ G O, Offs n b C w F G O d x y 0 wr ∧ St n F d G ∧ (x = b ∨ y = b) ∧ x ≠ y ∧ x ≠ C ∧ y ≠ C ∧ b ≤ x ∧ b ≤ y := by
  obtain ⟨G, O, fc, hst, hx, hy, hO, hxy, h1, h2, h3, h4, h5, hC, hl, hb⟩ := h
  refine ⟨G, O, ⟨hx, hy, hb, fc, hC, hl.next, fun u hu => by omega, fun u _ hu => ?_⟩, hst, hxy, h1, h2, h3, h4, h5⟩
  rw [hl.at hd hu, st_cnt hst]
section
variable {n b C d x y v : Nat} {w wr : World} {F G O : Nat → Int × Int}
theorem Offs.cell (h : Offs n b C w F G O d x y v wr) (hd : d < 8) (hv : v < 256) : wr.cell? ⟨C, d * 256 + v, none⟩ = some (.int .i64 (cnt (fun i => byteAt (G i).1 d) v n)) := by
  obtain ⟨_, _, _, fc, hC, _, _, h2⟩ := h
  rw [hC.cell (by omega), h2 v (Nat.le_refl _) hv]
theorem Offs.free (h : Offs n b C w F G O d x y v wr) (i : Nat) : wr.frozen? ⟨C, i, none⟩ = false := by
  obtain ⟨_, _, _, fc, hC, _⟩ := h
  exact hC.frozen i
theorem Offs.drew (h : Offs n b C w F G O d x y v wr) : Offs n b C w F G O d x y v wr.drew := by
  obtain ⟨h1, h2, h3, fc, hC, hl, h4, h5⟩ := h
  exact ⟨h1, h2, h3.drew, fc, hC, hl, h4, h5⟩
theorem Offs.step (h : Offs n b C w F G O d x y v wr) (hv : v < 256) (hx : x ≠ C) (hy : y ≠ C) (hbC : b ≤ C) {o : Nat} (ho : o = off (fun i => byteAt (G i).1 d) n v) :
    Offs n b C w F G O d x y (v + 1) (wr.setCell ⟨C, d * 256 + v, none⟩ (.int .i64 o)) := by
  obtain ⟨h1, h2, h3, fc, hC, hl, h4, h5⟩ := h
  refine ⟨h1.setOther (by exact hx) _, h2.setOther (by exact hy) _, h3.setCell (by exact hbC) _, _, hC.set _ _, hl.set hv _, ?_, ?_⟩
  · intro u hu
    show (if d * 256 + u = d * 256 + v then _ else _) = _
    by_cases e : u = v
    · subst e; rw [if_pos rfl, ho]
    · rw [if_neg (by omega)]; exact h4 u (by omega)
  · intro u hu hu2
    show (if d * 256 + u = d * 256 + v then _ else _) = _
    rw [if_neg (by omega)]; exact h5 u (by omega) hu2
end
theorem off_le (G : Nat → Int × Int) (d n v : Nat) (hv : v < 256) : off (fun i => byteAt (G i).1 d) n v + cnt (fun i => byteAt (G i).1 d) v n ≤ n := by
  have h1 := off_mono (fun i => byteAt (G i).1 d) n (show v + 1 ≤ 256 by omega)
  rw [off_all _ 256 n (fun i _ => byteAt_lt _ _)] at h1
  simpa [off] using h1

/-- In a pass: k items have been laid. -/
def Laid (n b C : Nat) (w : World) (F G : Nat → Int × Int) (d x y k : Nat) (wr : World) : Prop :=
  wr.rowIs x 101 (n * 2) (pairC G) ∧ Below b w wr ∧ ∃ H fc, wr.rowIs y 101 (n * 2) (pairC H) ∧ (∀ i, i < k → H (pos (fun i => byteAt (G i).1 d) n i) = G i) ∧
    wr.rowIs C 106 2048 fc ∧ Later n F (d + 1) fc ∧ ∀ u, u < 256 → fc (d * 256 + u) = .int .i64 ((off (fun i => byteAt (G i).1 d) n u + cnt (fun i => byteAt (G i).1 d) u k : Nat) : Int)
section
variable {n b C d x y k : Nat} {w wr : World} {F G O : Nat → Int × Int}
theorem Offs.laid (h : Offs n b C w F G O d x y 256 wr) : Laid n b C w F G d x y 0 wr := by
  obtain ⟨h1, h2, h3, fc, hC, hl, h4, h5⟩ := h
  exact ⟨h1, h3, O, fc, h2, fun i hi => by omega, hC, hl, fun u hu => by rw [h4 u hu]; simp [cnt]⟩
theorem Laid.count (h : Laid n b C w F G d x y k wr) (hd : d < 8) : wr.cell? ⟨C, d * 256 + byteAt (G k).1 d, none⟩ = some (.int .i64 (pos (fun i => byteAt (G i).1 d) n k)) := by
  obtain ⟨h1, h2, H, fc, h3, h4, hC, hl, h5⟩ := h
  have hb := byteAt_lt (G k).1 d
  rw [hC.cell (by omega), h5 _ hb]
  rfl
theorem Laid.freeC (h : Laid n b C w F G d x y k wr) (i : Nat) : wr.frozen? ⟨C, i, none⟩ = false := by
  obtain ⟨h1, h2, H, fc, h3, h4, hC, _⟩ := h
  exact hC.frozen i
theorem Laid.freeY (h : Laid n b C w F G d x y k wr) (i : Nat) : wr.frozen? ⟨y, i, none⟩ = false := by
  obtain ⟨h1, h2, H, fc, h3, h4, hC, _⟩ := h
  exact h3.frozen i
theorem Laid.lts (h : Laid n b C w F G d x y k wr) : x < wr.heap.size ∧ y < wr.heap.size ∧ C < wr.heap.size := by
  obtain ⟨h1, h2, H, fc, h3, h4, hC, _⟩ := h
  exact ⟨h1.lt, h3.lt, hC.lt⟩
theorem Laid.cellsY (h : Laid n b C w F G d x y k wr) {q : Nat} (hq : q < n) : (∃ u, wr.cell? ⟨y, q * 2, none⟩ = some u) ∧ ∃ u, wr.cell? ⟨y, q * 2 + 1, none⟩ = some u := by
  obtain ⟨h1, h2, H, fc, h3, h4, hC, _⟩ := h
  exact ⟨⟨_, pair_cell0 h3 hq⟩, ⟨_, pair_cell1 h3 hq⟩⟩
theorem Laid.drew (h : Laid n b C w F G d x y k wr) : Laid n b C w F G d x y k wr.drew := by
  obtain ⟨h1, h2, H, fc, h3, h4, hC, hl, h5⟩ := h
  exact ⟨h1, h2.drew, H, fc, h3, h4, hC, hl, h5⟩
theorem Laid.alloc (h : Laid n b C w F G d x y k wr) (hbs : b ≤ wr.heap.size) (o : Obj) : Laid n b C w F G d x y k (wr.alloc o) := by
  obtain ⟨h1, h2, H, fc, h3, h4, hC, hl, h5⟩ := h
  exact ⟨h1.alloc o, h2.alloc hbs o, H, fc, h3.alloc o, h4, hC.alloc o, hl, h5⟩
theorem Laid.step (h : Laid n b C w F G d x y k wr) (hk : k < n) (hxy : x ≠ y) (hx : x ≠ C) (hy : y ≠ C) (hbC : b ≤ C) (hby : b ≤ y) {q : Nat} (hq : q = pos (fun i => byteAt (G i).1 d) n k) :
    Laid n b C w F G d x y (k + 1) (((wr.setCell ⟨y, q * 2, none⟩ (.int .u64 (G k).1)).setCell ⟨y, q * 2 + 1, none⟩ (.int .i64 (G k).2)).setCell ⟨C, d * 256 + byteAt (G k).1 d, none⟩ (.int .i64 ((q : Int) + 1))) := by
  obtain ⟨h1, h2, H, fc, h3, h4, hC, hl, h5⟩ := h
  have hb := byteAt_lt (G k).1 d
  have hp := pair_set h3 (q := q) (G k).1 (G k).2
  have e1 : ∀ a v, a.block = y → ∀ w' : World, w'.rowIs x 101 (n * 2) (pairC G) → (w'.setCell a v).rowIs x 101 (n * 2) (pairC G) := fun a v ha w' hw => hw.setOther (by rw [ha]; exact hxy) v
  refine ⟨((e1 _ _ rfl _ (e1 _ _ rfl _ h1)).setOther (by exact hx) _), ((h2.setCell (by exact hby) _).setCell (by exact hby) _).setCell (by exact hbC) _, upd H q ((G k).1, (G k).2), _, hp.setOther (by exact hy) _, ?_,
    ((hC.setOther (by exact fun e => hy e.symm) _).setOther (by exact fun e => hy e.symm) _).set _ _, hl.set hb _, ?_⟩
  · intro i hi
    unfold upd
    by_cases e : i = k
    · subst e; rw [if_pos hq.symm]
    · rw [if_neg, h4 i (by omega)]
      intro he
      exact e (pos_inj _ (by omega) hk (he.trans hq))
  · intro u hu
    show (if d * 256 + u = d * 256 + byteAt (G k).1 d then _ else _) = _
    by_cases e : u = byteAt (G k).1 d
    · subst e
      rw [if_pos rfl, hq, cnt, if_pos rfl]
      simp only [pos]
      congr 1
    · rw [if_neg (by omega), h5 u hu, cnt, if_neg (fun h => e h.symm)]
      rfl
theorem Laid.mid (h : Laid n b C w F G d x y n wr) (hF : ∀ i, i < n → 0 ≤ (F i).1) (hn : 1 ≤ n) (hst : St n F d G) (hxb : x = b ∨ y = b) (hxy : x ≠ y) (hx : x ≠ C) (hy : y ≠ C) (hbx : b ≤ x) (hby : b ≤ y) : Mid n b C w F (d + 1) y x wr := by
  obtain ⟨h1, h2, H, fc, h3, h4, hC, hl, h5⟩ := h
  exact ⟨H, G, fc, st_pass hF hst h4, h3, h1, fun _ => st_from hst 0 (by omega), hxb.symm, fun e => hxy e.symm, hy, hx, hby, hbx, hC, hl, h2⟩
end
end Go.Proofs.Qxb6600323a
