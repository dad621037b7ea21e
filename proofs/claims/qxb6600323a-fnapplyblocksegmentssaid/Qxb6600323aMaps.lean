import Derived.Test.Qxb6600323aBase
import Derived.Maps.OwnSet
namespace Go.Proofs.Qxb6600323a
open Go.RowKit Go.MapKept

/-- The keys of a map, as a plain type. -/
def KeyFine (P : Program) (kt : TypeId) {κ : Type} (key : κ → Value) : Prop :=
  ∃ d, P.underlying kt = some d ∧ (∀ k, IsKey d (key k)) ∧ (∀ a b, key a = key b → a = b) ∧ ∀ k, Instr.sameBits 10000 (key k) (key k) = true

/-- Block m is a map of c entries; at k it holds g k. -/
def MapIs {κ : Type} (key : κ → Value) (w : World) (m : Nat) (g : κ → Option Value) (c : Nat) : Prop :=
  ∃ es clock, w.heap[m]? = some (.map es clock) ∧ es.size = c ∧ (∀ x ∈ es.toList, ∃ k, x.key = key k) ∧ (es.toList.Pairwise fun x y => x.key ≠ y.key) ∧
    ∀ k v, g k = some v ↔ ∃ x ∈ es.toList, x.key = key k ∧ x.val = v

section
variable {κ : Type} {key : κ → Value} {w w' : World} {m c : Nat} {g : κ → Option Value}

theorem MapIs.lt (h : MapIs key w m g c) : m < w.heap.size := by
  obtain ⟨es, clock, hb, _⟩ := h
  exact (Array.getElem?_eq_some_iff.1 hb).1
theorem MapIs.of_block (h : MapIs key w m g c) (e : w'.heap[m]? = w.heap[m]?) : MapIs key w' m g c := by
  obtain ⟨es, clock, hb, r⟩ := h
  exact ⟨es, clock, e.trans hb, r⟩
theorem MapIs.alloc (h : MapIs key w m g c) (o : Obj) : MapIs key (w.alloc o) m g c := h.of_block (Below.heap_alloc _ _ _ h.lt)
theorem MapIs.drew (h : MapIs key w m g c) : MapIs key w.drew m g c := h
theorem MapIs.setCell (h : MapIs key w m g c) {a : Addr} (ha : m ≠ a.block) (v : Value) : MapIs key (w.setCell a v) m g c := h.of_block (Below.heap_setCell _ _ _ _ ha)
theorem MapIs.made (w : World) : MapIs key (w.alloc (.map #[] 0)) w.heap.size (fun _ => none) 0 :=
  ⟨#[], 0, heap_alloc_new w _, rfl, by simp, by simp, by simp⟩
theorem MapIs.congr (h : MapIs key w m g c) {g' : κ → Option Value} (e : ∀ k, g' k = g k) : MapIs key w m g' c := by
  obtain ⟨es, clock, hb, h1, h2, h3, h4⟩ := h
  exact ⟨es, clock, hb, h1, h2, h3, fun k v => by rw [e k]; exact h4 k v⟩

variable {P : Program} {kt : TypeId}

theorem find_cases (K : KeyFine P kt key) (k : κ) {es : Array MapEntry} {d : TypeDesc} (hd : P.underlying kt = some d) (hk : ∀ x ∈ es.toList, ∃ k, x.key = key k) :
    (Instr.findNow d (key k) es.toList 0 = some none ∧ ∀ x ∈ es.toList, x.key ≠ key k) ∨ ∃ j e, Instr.findNow d (key k) es.toList 0 = some (some (j, e.val)) ∧ es.toList[j]? = some e ∧ e.key = key k := by
  obtain ⟨d', hd', h1, _, _⟩ := K
  rw [hd] at hd'
  cases hd'
  have := findNow_spec (h1 k) es.toList 0 (fun x hx => by obtain ⟨k', e⟩ := hk x hx; rw [e]; exact h1 k')
  simpa using this

/-- 'v, ok := m[k]' and 'v := m[k]'. -/
theorem MapIs.look (h : MapIs key w m g c) (K : KeyFine P kt key) {t e : TypeId} (ht : P.underlying t = some (.map kt e)) {z : Value} (hz : (zeroValue e).run P w = .ok z w) (k : κ) (ok : Bool) :
    (Instr.lookup t (.map (some m)) (key k) ok).run P w = .ok (if ok then .tuple #[(g k).getD z, .bool (g k).isSome] else (g k).getD z) w := by
  obtain ⟨es, clock, hb, h1, h2, h3, h4⟩ := h
  obtain ⟨d, hd, hik, hinj, hsb⟩ := id K
  have hck : ∀ b, (Instr.checkKey b 10000 kt (key k)).run P w = .ok () w := fun b => run_checkKey hd (hik k) b 9999
  rcases find_cases K k hd h2 with ⟨f1, f2⟩ | ⟨j, e0, f1, f2, f3⟩
  · have hg : g k = none := by
      cases hgk : g k with
      | none => rfl
      | some v => obtain ⟨x, hx, e1, _⟩ := (h4 k v).1 hgk; exact absurd e1 (f2 x hx)
    simp [Instr.lookup, run_underlying ht, MapKept.run_getObj_map hb, hck, run_findKey hd f1, hz, hg, Result.andThen]
  · have hg : g k = some e0.val := (h4 k e0.val).2 ⟨e0, List.mem_of_getElem? f2, f3, rfl⟩
    simp [Instr.lookup, run_underlying ht, MapKept.run_getObj_map hb, hck, run_findKey hd f1, hg, Result.andThen]

theorem modify_set (l : List MapEntry) (j : Nat) (f : MapEntry → MapEntry) (e : MapEntry) (h : l[j]? = some e) : l.modify j f = l.set j (f e) := by
  apply List.ext_getElem?
  intro i
  rw [List.getElem?_modify, List.getElem?_set]
  by_cases hij : j = i
  · subst hij
    obtain ⟨this, he⟩ := List.getElem?_eq_some_iff.1 h
    simp [this, he]
  · simp [hij]

theorem mem_set_iff {l : List MapEntry} {j : Nat} {e e' x : MapEntry} (h : l[j]? = some e) (hp : l.Pairwise fun x y => x.key ≠ y.key) : x ∈ l.set j e' ↔ x = e' ∨ (x ∈ l ∧ x.key ≠ e.key) := by
  have hj := (List.getElem?_eq_some_iff.1 h).1
  have he : l[j] = e := by simpa [List.getElem?_eq_getElem hj] using h
  rw [List.pairwise_iff_getElem] at hp
  constructor
  · intro hx
    obtain ⟨i, hi, ex⟩ := List.getElem_of_mem hx
    rw [List.getElem_set] at ex
    split at ex
    · exact .inl ex.symm
    · rename_i hne
      have hi' : i < l.length := by simpa using hi
      refine .inr ⟨ex ▸ List.getElem_mem hi', ?_⟩
      rw [← ex, ← he]
      rcases Nat.lt_or_gt_of_ne hne with hlt | hgt
      · exact fun q => hp j i hj hi' hlt q.symm
      · exact hp i j hi' hj hgt
  · rintro (rfl | ⟨hx, hk⟩)
    · exact List.mem_set hj _
    · obtain ⟨i, hi, ex⟩ := List.getElem_of_mem hx
      have hne : j ≠ i := by
        intro q
        subst q
        rw [he] at ex
        exact hk (by rw [ex])
      have : (l.set j e')[i]'(by simpa using hi) = x := by rw [List.getElem_set, if_neg hne]; exact ex
      rw [← this]
      exact List.getElem_mem _

/-- 'm[k] = v'. -/
theorem MapIs.put (h : MapIs key w m g c) (K : KeyFine P kt key) {t e : TypeId} (ht : P.underlying t = some (.map kt e)) (k : κ) (v : Value) :
    ∃ w', (Instr.mapUpdate t (.map (some m)) (key k) v).run P w = .ok () w' ∧ (∀ g' : κ → Option Value, g' k = some v → (∀ k', k' ≠ k → g' k' = g k') → MapIs key w' m g' (c + if (g k).isSome then 0 else 1)) ∧ w.grownBy w' (some m) := by
  obtain ⟨es, clock, hb, h1, h2, h3, h4⟩ := h
  obtain ⟨d, hd, hik, hinj, hsb⟩ := id K
  have hck : ∀ b, (Instr.checkKey b 10000 kt (key k)).run P w = .ok () w := fun b => run_checkKey hd (hik k) b 9999
  have hgr : ∀ o : Obj, w.grownBy { w with heap := w.heap.setIfInBounds m o } (some m) := fun o =>
    ⟨rfl, rfl, rfl, by simp, fun i _ hi => (heap_set (o' := o) hb).2 i (fun e => hi (by rw [e]))⟩
  rcases find_cases K k hd h2 with ⟨f1, f2⟩ | ⟨j, e0, f1, f2, f3⟩
  · have hg : g k = none := by
      cases hgk : g k with
      | none => rfl
      | some v => obtain ⟨x, hx, e1, _⟩ := (h4 k v).1 hgk; exact absurd e1 (f2 x hx)
    refine ⟨_, ?_, ?_, hgr (.map (es.push ⟨key k, v, clock⟩) (clock + 1))⟩
    · simp [Instr.mapUpdate, run_underlying ht, MapKept.run_getObj_map hb, hck, run_findKey hd f1, MapKept.run_setObj_map _ hb, Result.andThen]
    · intro g' hg1 hg2
      refine ⟨es.push ⟨key k, v, clock⟩, clock + 1, (heap_set hb).1, by simp [h1, hg], ?_, ?_, ?_⟩
      · intro x hx
        simp only [Array.toList_push, List.mem_append, List.mem_singleton] at hx
        rcases hx with hx | rfl
        · exact h2 x hx
        · exact ⟨k, rfl⟩
      · rw [Array.toList_push, List.pairwise_append]
        refine ⟨h3, by simp, ?_⟩
        intro x hx y hy
        simp only [List.mem_singleton] at hy
        subst hy
        exact f2 x hx
      · intro k' v'
        simp only [Array.toList_push, List.mem_append, List.mem_singleton]
        by_cases e : k' = k
        · subst e
          rw [hg1]
          constructor
          · intro q
            cases q
            exact ⟨_, .inr rfl, rfl, rfl⟩
          · rintro ⟨x, hx | rfl, e1, e2⟩
            · exact absurd e1 (f2 x hx)
            · simp at e2; rw [e2]
        · rw [hg2 k' e, h4 k' v']
          constructor
          · rintro ⟨x, hx, e1, e2⟩
            exact ⟨x, .inl hx, e1, e2⟩
          · rintro ⟨x, hx | rfl, e1, e2⟩
            · exact ⟨x, hx, e1, e2⟩
            · exact absurd (hinj _ _ e1).symm e
  · have hg : g k = some e0.val := (h4 k e0.val).2 ⟨e0, List.mem_of_getElem? f2, f3, rfl⟩
    have hj : es[j]? = some e0 := by simpa using f2
    have hst : (Instr.keyThatStays (key k) (key k)).run P w = .ok (key k) w := by simp [Instr.keyThatStays, hsb k]
    have hlist : (es.modify j (fun e' => { e' with key := key k, val := v })).toList = es.toList.set j { e0 with key := key k, val := v } := by
      rw [Array.toList_modify, modify_set _ _ _ _ f2]
    refine ⟨_, ?_, ?_, hgr (.map (es.modify j (fun e' => { e' with key := key k, val := v })) clock)⟩
    · simp [Instr.mapUpdate, run_underlying ht, MapKept.run_getObj_map hb, hck, run_findKey hd f1, hj, f3, hst, MapKept.run_setObj_map _ hb, Result.andThen]
    · intro g' hg1 hg2
      have hmem : ∀ x, x ∈ es.toList.set j { e0 with key := key k, val := v } ↔ x = { e0 with key := key k, val := v } ∨ (x ∈ es.toList ∧ x.key ≠ key k) := fun x => by rw [mem_set_iff f2 h3, f3]
      refine ⟨es.modify j (fun e' => { e' with key := key k, val := v }), clock, (heap_set hb).1, by simp [h1, hg], ?_, ?_, ?_⟩
      · intro x hx
        rw [hlist, hmem] at hx
        rcases hx with rfl | ⟨hx, _⟩
        · exact ⟨k, rfl⟩
        · exact h2 x hx
      · rw [hlist, ← List.pairwise_map (f := MapEntry.key) (R := fun a b => a ≠ b), List.map_set]
        have : (es.toList.map MapEntry.key).set j (key k) = es.toList.map MapEntry.key := by
          apply List.ext_getElem?
          intro i
          rw [List.getElem?_set]
          by_cases hij : j = i
          · subst hij
            have hjl := (List.getElem?_eq_some_iff.1 f2).1
            simp [hj, f3]
            simpa using hjl
          · simp [hij]
        simp only [this]
        rw [List.pairwise_map]
        exact h3
      · intro k' v'
        simp only [hlist, hmem]
        by_cases e : k' = k
        · subst e
          rw [hg1]
          constructor
          · intro q
            cases q
            exact ⟨_, .inl rfl, rfl, rfl⟩
          · rintro ⟨x, rfl | ⟨_, hne⟩, e1, e2⟩
            · simp at e2; rw [e2]
            · exact absurd e1 hne
        · rw [hg2 k' e, h4 k' v']
          constructor
          · rintro ⟨x, hx, e1, e2⟩
            exact ⟨x, .inr ⟨hx, fun q => e (hinj _ _ (e1.symm.trans q))⟩, e1, e2⟩
          · rintro ⟨x, rfl | ⟨hx, _⟩, e1, e2⟩
            · exact absurd (hinj _ _ e1).symm e
            · exact ⟨x, hx, e1, e2⟩
end

/-! ### at the operations -/
section
variable {P : Program} {w : World} {ops : Array Oper} {rest : List Oper} {o : Oper} {a : Act} {Q : Exit → Act → World → Prop}
variable {κ : Type} {key : κ → Value} {m c : Nat} {g : κ → Option Value} {kt t e : TypeId}

theorem wpList_look_ok (hg : o.guard = none) {x i : Operand} (hop : o.op = Op.lookup t x i true) (K : KeyFine P kt key) (ht : P.underlying t = some (.map kt e)) {z : Value} (hz : ∀ w, (zeroValue e).run P w = .ok z w)
    (k : κ) (hx : a.eval x = .map (some m)) (hi : a.eval i = key k) (h : MapIs key w m g c) (hK : wpList P ops Q rest (a.put o.dst (.tuple #[(g k).getD z, .bool (g k).isSome])) w) :
    wpList P ops Q (o :: rest) a w := by
  refine wpList_plain hg fun K' hK' => ?_
  have hrun := h.look K ht (hz w) k true
  simp only [if_true] at hrun
  unfold Oper.wp
  simp [execOp, hop, hx, hi, hrun, Result.andThen]
  exact hK' _ _ hK
theorem wpList_look (hg : o.guard = none) {x i : Operand} (hop : o.op = Op.lookup t x i false) (K : KeyFine P kt key) (ht : P.underlying t = some (.map kt e)) {z : Value} (hz : ∀ w, (zeroValue e).run P w = .ok z w)
    (k : κ) (hx : a.eval x = .map (some m)) (hi : a.eval i = key k) (h : MapIs key w m g c) (hK : wpList P ops Q rest (a.put o.dst ((g k).getD z)) w) :
    wpList P ops Q (o :: rest) a w := by
  refine wpList_plain hg fun K' hK' => ?_
  have hrun := h.look K ht (hz w) k false
  simp only [Bool.false_eq_true, if_false] at hrun
  unfold Oper.wp
  simp [execOp, hop, hx, hi, hrun, Result.andThen]
  exact hK' _ _ hK
theorem wpList_look_ok_some (hg : o.guard = none) {x i : Operand} (hop : o.op = Op.lookup t x i true) (K : KeyFine P kt key) (ht : P.underlying t = some (.map kt e)) {z : Value} (hz : ∀ w, (zeroValue e).run P w = .ok z w)
    (k : κ) (hx : a.eval x = .map (some m)) (hi : a.eval i = key k) (h : MapIs key w m g c) {v : Value} (hv : g k = some v) (hK : wpList P ops Q rest (a.put o.dst (.tuple #[v, .bool true])) w) :
    wpList P ops Q (o :: rest) a w := wpList_look_ok hg hop K ht hz k hx hi h (by rw [hv]; exact hK)
theorem wpList_look_ok_none (hg : o.guard = none) {x i : Operand} (hop : o.op = Op.lookup t x i true) (K : KeyFine P kt key) (ht : P.underlying t = some (.map kt e)) {z : Value} (hz : ∀ w, (zeroValue e).run P w = .ok z w)
    (k : κ) (hx : a.eval x = .map (some m)) (hi : a.eval i = key k) (h : MapIs key w m g c) (hv : g k = none) (hK : wpList P ops Q rest (a.put o.dst (.tuple #[z, .bool false])) w) :
    wpList P ops Q (o :: rest) a w := wpList_look_ok hg hop K ht hz k hx hi h (by rw [hv]; exact hK)
theorem wpList_look_some (hg : o.guard = none) {x i : Operand} (hop : o.op = Op.lookup t x i false) (K : KeyFine P kt key) (ht : P.underlying t = some (.map kt e)) {z : Value} (hz : ∀ w, (zeroValue e).run P w = .ok z w)
    (k : κ) (hx : a.eval x = .map (some m)) (hi : a.eval i = key k) (h : MapIs key w m g c) {v : Value} (hv : g k = some v) (hK : wpList P ops Q rest (a.put o.dst v) w) :
    wpList P ops Q (o :: rest) a w := wpList_look hg hop K ht hz k hx hi h (by rw [hv]; exact hK)
theorem wpList_look_none (hg : o.guard = none) {x i : Operand} (hop : o.op = Op.lookup t x i false) (K : KeyFine P kt key) (ht : P.underlying t = some (.map kt e)) {z : Value} (hz : ∀ w, (zeroValue e).run P w = .ok z w)
    (k : κ) (hx : a.eval x = .map (some m)) (hi : a.eval i = key k) (h : MapIs key w m g c) (hv : g k = none) (hK : wpList P ops Q rest (a.put o.dst z) w) :
    wpList P ops Q (o :: rest) a w := wpList_look hg hop K ht hz k hx hi h (by rw [hv]; exact hK)
theorem wpList_put (hg : o.guard = none) {x i v : Operand} (hop : o.op = Op.mapUpdate t x i v) (K : KeyFine P kt key) (ht : P.underlying t = some (.map kt e))
    (k : κ) (val : Value) (hx : a.eval x = .map (some m)) (hi : a.eval i = key k) (hv : a.eval v = val) (h : MapIs key w m g c)
    (hK : ∀ w', (∀ g' : κ → Option Value, g' k = some val → (∀ k', k' ≠ k → g' k' = g k') → MapIs key w' m g' (c + if (g k).isSome then 0 else 1)) → w.grownBy w' (some m) → wpList P ops Q rest (a.put o.dst undef) w') :
    wpList P ops Q (o :: rest) a w := by
  refine wpList_plain hg fun K' hK' => ?_
  obtain ⟨w', hrun, r1, r2⟩ := h.put K ht k val
  unfold Oper.wp
  simp [execOp, hop, hx, hi, hv, hrun, Result.andThen]
  exact hK' _ _ (hK w' r1 r2)
end

/-! ### what is kept -/
/-- The blocks in S are as they were. -/
structure Kept (S : Nat → Prop) (w w' : World) : Prop where
  os : w'.os = w.os
  tape : w'.tape = w.tape
  output : w'.output = w.output
  size : w.heap.size ≤ w'.heap.size
  block : ∀ k, S k → w'.heap[k]? = w.heap[k]?
section
variable {S S' : Nat → Prop} {w w' w'' : World}
theorem Kept.refl (S : Nat → Prop) (w : World) : Kept S w w := ⟨rfl, rfl, rfl, Nat.le_refl _, fun _ _ => rfl⟩
theorem Kept.trans (h : Kept S w w') (k : Kept S w' w'') : Kept S w w'' := ⟨k.os.trans h.os, k.tape.trans h.tape, k.output.trans h.output, Nat.le_trans h.size k.size, fun i hi => (k.block i hi).trans (h.block i hi)⟩
theorem Kept.mono (h : Kept S w w') (hs : ∀ k, S' k → S k) : Kept S' w w' := ⟨h.os, h.tape, h.output, h.size, fun k hk => h.block k (hs k hk)⟩
theorem Kept.drew (h : Kept S w w') : Kept S w w'.drew := ⟨h.os, h.tape, h.output, h.size, h.block⟩
theorem Kept.drewN (h : Kept S w w') (n : Nat) : Kept S w (w'.drewN n) := ⟨h.os, h.tape, h.output, h.size, h.block⟩
theorem Kept.alloc (h : Kept S w w') (hs : ∀ k, S k → k < w'.heap.size) (o : Obj) : Kept S w (w'.alloc o) :=
  h.trans ⟨rfl, rfl, rfl, by simp, fun k hk => Below.heap_alloc _ _ _ (hs k hk)⟩
theorem Kept.setCell (h : Kept S w w') {a : Addr} (ha : ¬ S a.block) (v : Value) : Kept S w (w'.setCell a v) :=
  h.trans ⟨rfl, rfl, rfl, by simp [World.setCell], fun k hk => Below.heap_setCell _ _ _ _ (fun e => ha (e ▸ hk))⟩
theorem Kept.grown (h : Kept S w w') {row : Option Nat} (hg : w'.grownBy w'' row) (hs : ∀ k, S k → k < w'.heap.size ∧ some k ≠ row) : Kept S w w'' :=
  h.trans ⟨hg.os, hg.tape, hg.output, hg.size, fun k hk => hg.block k (hs k hk).1 (hs k hk).2⟩
theorem Kept.below (h : Kept S w w') {B : Nat} (hs : ∀ k, k < B → S k) : Below B w w' := ⟨h.os, h.tape, h.output, h.size, fun k hk => h.block k (hs k hk)⟩
theorem Kept.of_below {B : Nat} (h : Below B w w') (hs : ∀ k, S k → k < B) : Kept S w w' := ⟨h.os, h.tape, h.output, h.size, fun k hk => h.block k (hs k hk)⟩
theorem Kept.cell (h : Kept S w w') {a : Addr} (ha : S a.block) : w'.cell? a = w.cell? a := World.cell?_of_block (h.block _ ha)
end
theorem row_ne {w : World} {b b' t t' n n' : Nat} {f f' : Nat → Value} (h : w.rowIs b t n f) (h' : w.rowIs b' t' n' f') (ht : t ≠ t') : b ≠ b' := by
  intro e
  subst e
  obtain ⟨c, h1, _⟩ := h
  obtain ⟨c', h2, _⟩ := h'
  rw [h1] at h2
  simp at h2
  exact ht h2.2
theorem map_ne {κ : Type} {key : κ → Value} {w : World} {m c b t n : Nat} {g : κ → Option Value} {f : Nat → Value} (h : MapIs key w m g c) (h' : w.rowIs b t n f) : m ≠ b := by
  intro e
  subst e
  obtain ⟨es, cl, h1, _⟩ := h
  obtain ⟨c', h2, _⟩ := h'
  rw [h1] at h2
  simp at h2

/-- Integers as keys. -/
def intKey (n : Int) : Value := .int .i64 n
theorem int_fine {P : Program} {kt : TypeId} (h : P.underlying kt = some (.int .i64)) : KeyFine P kt intKey :=
  ⟨_, h, fun k => by simp [IsKey, intKey], fun a b e => by simpa [intKey] using e, fun k => by simp [Instr.sameBits, intKey]⟩
/-- Strings as keys. -/
def strKey (s : ByteArray) : Value := .string s
theorem str_fine {P : Program} {kt : TypeId} (h : P.underlying kt = some .string) : KeyFine P kt strKey :=
  ⟨_, h, fun k => by simp [IsKey, strKey], fun a b e => by simpa [strKey] using e, fun k => by simp only [Instr.sameBits, strKey]; exact (bytes_beq k k).2 rfl⟩
end Go.Proofs.Qxb6600323a
