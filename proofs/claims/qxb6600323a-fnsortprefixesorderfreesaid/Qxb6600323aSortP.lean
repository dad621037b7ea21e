/-
  The plain part of sortPrefixes: counting, positions, what a pass does. No Go in sight.
-/
namespace Go.Proofs.Qxb6600323a

def byteAt (p : Int) (d : Nat) : Nat := (p / 2 ^ (8 * d) % 256).toNat
theorem byteAt_lt (p : Int) (d : Nat) : byteAt p d < 256 := by
  unfold byteAt
  have := Int.emod_lt_of_pos (p / 2 ^ (8 * d)) (show (0 : Int) < 256 by omega)
  have := Int.emod_nonneg (p / 2 ^ (8 * d)) (show (256 : Int) ≠ 0 by omega)
  omega

/-! ### counts -/
def cnt (f : Nat → Nat) (v : Nat) : Nat → Nat
  | 0 => 0
  | k + 1 => cnt f v k + if f k = v then 1 else 0

theorem cnt_le (f : Nat → Nat) (v k : Nat) : cnt f v k ≤ k := by
  induction k with
  | zero => simp [cnt]
  | succ k ih => simp only [cnt]; split <;> omega
theorem cnt_mono (f : Nat → Nat) (v : Nat) {k m : Nat} (h : k ≤ m) : cnt f v k ≤ cnt f v m := by
  induction m with
  | zero => have : k = 0 := by omega
            subst this; exact Nat.le_refl _
  | succ m ih =>
    by_cases e : k = m + 1
    · subst e; exact Nat.le_refl _
    · have := ih (by omega)
      simp only [cnt]; omega
theorem cnt_lt (f : Nat → Nat) {v i m : Nat} (hv : f i = v) (h : i < m) : cnt f v i < cnt f v m := by
  have h1 : cnt f v (i + 1) = cnt f v i + 1 := by simp [cnt, hv]
  have := cnt_mono f v (show i + 1 ≤ m by omega)
  omega
theorem cnt_full (f : Nat → Nat) {v n : Nat} (h : cnt f v n = n) : ∀ i, i < n → f i = v := by
  induction n with
  | zero => intro i hi; omega
  | succ n ih =>
    have hl := cnt_le f v n
    simp only [cnt] at h
    have hn : f n = v := by
      by_cases e : f n = v
      · exact e
      · rw [if_neg e] at h; omega
    rw [if_pos hn] at h
    intro i hi
    by_cases e : i = n
    · subst e; exact hn
    · exact ih (by omega) i (by omega)
theorem cnt_congr {f g : Nat → Nat} {v n : Nat} (h : ∀ i, i < n → f i = g i) : cnt f v n = cnt g v n := by
  induction n with
  | zero => rfl
  | succ n ih => simp only [cnt]; rw [ih (fun i hi => h i (by omega)), h n (by omega)]
theorem cnt_rank (f : Nat → Nat) (v : Nat) : ∀ n t, t < cnt f v n → ∃ i, i < n ∧ f i = v ∧ cnt f v i = t
  | 0, t, h => by simp [cnt] at h
  | n + 1, t, h => by
    by_cases e : t < cnt f v n
    · obtain ⟨i, hi, a, b⟩ := cnt_rank f v n t e
      exact ⟨i, by omega, a, b⟩
    · simp only [cnt] at h
      by_cases hv : f n = v
      · rw [if_pos hv] at h
        exact ⟨n, by omega, hv, by omega⟩
      · rw [if_neg hv] at h; omega
theorem cnt_count (f : Nat → Nat) (v : Nat) : ∀ n, cnt f v n = ((List.range n).map f).count v
  | 0 => by simp [cnt]
  | n + 1 => by
    rw [List.range_succ, List.map_append, List.count_append, ← cnt_count f v n]
    simp only [cnt, List.map_cons, List.map_nil, List.count_singleton]
    by_cases h : f n = v <;> simp [h]

/-! ### offsets -/
def off (f : Nat → Nat) (n : Nat) : Nat → Nat
  | 0 => 0
  | v + 1 => off f n v + cnt f v n
theorem off_mono (f : Nat → Nat) (n : Nat) {u v : Nat} (h : u ≤ v) : off f n u ≤ off f n v := by
  induction v with
  | zero => have : u = 0 := by omega
            subst this; exact Nat.le_refl _
  | succ v ih =>
    by_cases e : u = v + 1
    · subst e; exact Nat.le_refl _
    · have := ih (by omega)
      simp only [off]; omega
theorem off_succ (f : Nat → Nat) (n : Nat) : ∀ m, off f (n + 1) m = off f n m + if f n < m then 1 else 0
  | 0 => by simp [off]
  | m + 1 => by
    simp only [off, cnt, off_succ f n m]
    by_cases h1 : f n < m
    · rw [if_pos h1, if_neg (by omega), if_pos (by omega)]; omega
    · by_cases h2 : f n = m
      · rw [if_neg h1, if_pos h2, if_pos (by omega)]; omega
      · rw [if_neg h1, if_neg h2, if_neg (by omega)]; omega
theorem off_all (f : Nat → Nat) (m : Nat) : ∀ n, (∀ i, i < n → f i < m) → off f n m = n
  | 0, _ => by
    induction m with
    | zero => rfl
    | succ m ih => simp [off, cnt, ih (fun i hi => by omega)]
  | n + 1, h => by
    rw [off_succ, off_all f m n (fun i hi => h i (by omega)), if_pos (h n (by omega))]

/-! ### positions -/
def pos (f : Nat → Nat) (n i : Nat) : Nat := off f n (f i) + cnt f (f i) i
theorem pos_lt_off (f : Nat → Nat) {n i : Nat} (h : i < n) : pos f n i < off f n (f i + 1) := by
  have := cnt_lt f (v := f i) rfl h
  simp only [pos, off]; omega
theorem pos_lt (f : Nat → Nat) {m n i : Nat} (hf : ∀ i, i < n → f i < m) (h : i < n) : pos f n i < n := by
  have h1 := pos_lt_off f h
  have h2 := off_mono f n (show f i + 1 ≤ m by have := hf i h; omega)
  rw [off_all f m n hf] at h2
  omega
theorem pos_order (f : Nat → Nat) {n i j : Nat} (hi : i < n) (h : f i < f j ∨ (f i = f j ∧ i < j)) : pos f n i < pos f n j := by
  rcases h with h | ⟨h, hij⟩
  · have h1 := pos_lt_off f hi
    have h2 := off_mono f n (show f i + 1 ≤ f j by omega)
    simp only [pos] at *; omega
  · have := cnt_lt f (v := f i) rfl hij
    simp only [pos, ← h]; omega
theorem pos_inv (f : Nat → Nat) {n i j : Nat} (hj : j < n) (h : pos f n i < pos f n j) : f i < f j ∨ (f i = f j ∧ i < j) := by
  by_cases h1 : f i < f j
  · exact .inl h1
  · by_cases h2 : f i = f j
    · by_cases h3 : i < j
      · exact .inr ⟨h2, h3⟩
      · exfalso
        by_cases h4 : i = j
        · subst h4; omega
        · have := pos_order f (n := n) hj (j := i) (.inr ⟨h2.symm, by omega⟩); omega
    · have := pos_order f (n := n) hj (j := i) (.inl (by omega)); omega
theorem pos_inj (f : Nat → Nat) {n i j : Nat} (hi : i < n) (hj : j < n) (h : pos f n i = pos f n j) : i = j := by
  by_cases e : i = j
  · exact e
  · exfalso
    by_cases h1 : f i < f j ∨ (f i = f j ∧ i < j)
    · have := pos_order f hi h1; omega
    · have h2 : f j < f i ∨ (f j = f i ∧ j < i) := by omega
      have := pos_order f hj h2; omega
theorem off_find (f : Nat → Nat) (n q : Nat) : ∀ m, q < off f n m → ∃ v, v < m ∧ off f n v ≤ q ∧ q < off f n (v + 1)
  | 0, h => by simp [off] at h
  | m + 1, h => by
    by_cases e : q < off f n m
    · obtain ⟨v, a, b, c⟩ := off_find f n q m e
      exact ⟨v, by omega, b, c⟩
    · exact ⟨m, by omega, by omega, h⟩
theorem pos_surj (f : Nat → Nat) {m n q : Nat} (hf : ∀ i, i < n → f i < m) (h : q < n) : ∃ i, i < n ∧ pos f n i = q := by
  rw [← off_all f m n hf] at h
  obtain ⟨v, _, h1, h2⟩ := off_find f n q m h
  simp only [off] at h2
  obtain ⟨i, hi, hv, hc⟩ := cnt_rank f v n (q - off f n v) (by omega)
  refine ⟨i, hi, ?_⟩
  simp only [pos, hv, hc]; omega
/-- Where all are equal every one stays in its place. -/
theorem off_zero (f : Nat → Nat) {n v : Nat} (hf : ∀ i, i < n → f i = v) : off f n v = 0 := by
  have : ∀ u, u ≤ v → off f n u = 0 := by
    intro u
    induction u with
    | zero => intro _; rfl
    | succ u ih =>
      intro hu
      simp only [off, ih (by omega)]
      have hz : ∀ k, k ≤ n → cnt f u k = 0 := by
        intro k
        induction k with
        | zero => intro _; rfl
        | succ k ihk => intro hk; simp only [cnt, ihk (by omega)]; rw [if_neg]; have := hf k (by omega); omega
      rw [hz n (Nat.le_refl _)]
  exact this v (Nat.le_refl _)
theorem cnt_all (f : Nat → Nat) {v : Nat} : ∀ {k : Nat}, (∀ i, i < k → f i = v) → cnt f v k = k
  | 0, _ => rfl
  | k + 1, h => by
    have h0 : cnt f v k = k := cnt_all f (fun i hi => h i (by omega))
    rw [cnt, h0, if_pos (h k (by omega))]
theorem pos_same (f : Nat → Nat) {n v i : Nat} (hf : ∀ i, i < n → f i = v) (h : i < n) : pos f n i = i := by
  unfold pos
  rw [hf i h, off_zero f hf, cnt_all f (fun j hj => hf j (by omega))]
  omega

/-! ### the state behind d passes -/
def low (d : Nat) (p : Int) : Nat := p.toNat % 2 ^ (8 * d)
theorem byteAt_nat {p : Int} (h : 0 ≤ p) (d : Nat) : byteAt p d = p.toNat / 2 ^ (8 * d) % 256 := by
  obtain ⟨q, rfl⟩ := Int.eq_ofNat_of_zero_le h
  unfold byteAt
  have : ((q : Int) / 2 ^ (8 * d) % 256) = ((q / 2 ^ (8 * d) % 256 : Nat) : Int) := by
    rw [Int.natCast_emod, Int.natCast_ediv, Int.natCast_pow]; rfl
  rw [this, Int.toNat_natCast]
  simp
theorem low_succ {p : Int} (h : 0 ≤ p) (d : Nat) : low (d + 1) p = low d p + 2 ^ (8 * d) * byteAt p d := by
  unfold low
  rw [byteAt_nat h, show 8 * (d + 1) = 8 * d + 8 by omega, Nat.pow_add, Nat.mod_mul]
theorem low_lt (d : Nat) (p : Int) : low d p < 2 ^ (8 * d) := Nat.mod_lt _ (Nat.pow_pos (by omega))
theorem low_byte {p q : Int} (hp : 0 ≤ p) (hq : 0 ≤ q) (d : Nat) (h : byteAt p d < byteAt q d) : low (d + 1) p < low (d + 1) q := by
  rw [low_succ hp, low_succ hq]
  have h1 := low_lt d p
  have h2 : 2 ^ (8 * d) * (byteAt p d + 1) ≤ 2 ^ (8 * d) * byteAt q d := Nat.mul_le_mul_left _ (by omega)
  rw [Nat.mul_add] at h2
  omega
theorem low_eight {p : Int} (h0 : 0 ≤ p) (h : p < 18446744073709551616) : (low 8 p : Int) = p := by
  unfold low
  rw [Nat.mod_eq_of_lt]
  · omega
  · have : (2 : Nat) ^ (8 * 8) = 18446744073709551616 := by decide
    omega

def Seq (n : Nat) (F : Nat → Int × Int) : List (Int × Int) := (List.range n).map F
def Ord (T : Int × Int → Int × Int → Prop) (n d : Nat) (G : Nat → Int × Int) : Prop :=
  ∀ i j, i < j → j < n → low d (G i).1 < low d (G j).1 ∨ (low d (G i).1 = low d (G j).1 ∧ T (G i) (G j))
def St (n : Nat) (F : Nat → Int × Int) (d : Nat) (G : Nat → Int × Int) : Prop :=
  (Seq n G).Perm (Seq n F) ∧ ∀ T, (∀ i j, i < j → j < n → T (F i) (F j)) → Ord T n d G

theorem st_start (n : Nat) (F : Nat → Int × Int) : St n F 0 F := by
  refine ⟨List.Perm.refl _, fun T h i j hij hj => .inr ⟨?_, h i j hij hj⟩⟩
  simp [low, Nat.mod_one]
theorem seq_mem {n : Nat} {F : Nat → Int × Int} {x : Int × Int} : x ∈ Seq n F ↔ ∃ i, i < n ∧ F i = x := by
  simp [Seq]
theorem st_from {n d : Nat} {F G : Nat → Int × Int} (h : St n F d G) : ∀ i, i < n → ∃ j, j < n ∧ F j = G i := by
  intro i hi
  have := (h.1.mem_iff (a := G i)).1 (seq_mem.2 ⟨i, hi, rfl⟩)
  exact seq_mem.1 this
theorem st_nonneg {n d : Nat} {F G : Nat → Int × Int} (h : St n F d G) (hF : ∀ i, i < n → 0 ≤ (F i).1) : ∀ i, i < n → 0 ≤ (G i).1 := by
  intro i hi
  obtain ⟨j, hj, e⟩ := st_from h i hi
  rw [← e]; exact hF j hj
/-- The counts do not hang on the order. -/
theorem st_cnt {n d : Nat} {F G : Nat → Int × Int} (h : St n F d G) (e v : Nat) : cnt (fun i => byteAt (G i).1 e) v n = cnt (fun i => byteAt (F i).1 e) v n := by
  rw [cnt_count, cnt_count]
  have := (h.1.map (fun x : Int × Int => byteAt x.1 e)).count_eq v
  simpa [Seq, Function.comp_def] using this
theorem perm_pos (f : Nat → Nat) {m n : Nat} (hf : ∀ i, i < n → f i < m) : ((List.range n).map (pos f n)).Perm (List.range n) := by
  refine (List.perm_ext_iff_of_nodup ?_ List.nodup_range).2 ?_
  · refine List.pairwise_map.2 ?_
    refine List.Pairwise.imp_of_mem ?_ List.nodup_range
    intro a b ha hb hab he
    exact hab (pos_inj f (by simpa using ha) (by simpa using hb) he)
  · intro q
    simp only [List.mem_map, List.mem_range]
    constructor
    · rintro ⟨i, hi, rfl⟩; exact pos_lt f hf hi
    · intro hq; exact pos_surj f hf hq
/-- What a pass does. -/
theorem st_pass {n d : Nat} {F G H : Nat → Int × Int} (hF : ∀ i, i < n → 0 ≤ (F i).1) (h : St n F d G) (hH : ∀ i, i < n → H (pos (fun i => byteAt (G i).1 d) n i) = G i) : St n F (d + 1) H := by
  have hG := st_nonneg h hF
  have hb : ∀ i, i < n → (fun i => byteAt (G i).1 d) i < 256 := fun i _ => byteAt_lt _ _
  refine ⟨?_, ?_⟩
  · refine List.Perm.trans ?_ h.1
    have h1 := (perm_pos _ hb).map H
    rw [List.map_map] at h1
    refine h1.symm.trans (List.Perm.of_eq ?_)
    unfold Seq
    refine List.map_congr_left ?_
    intro i hi
    exact hH i (by simpa using hi)
  · intro T hT q r hqr hr
    obtain ⟨i, hi, rfl⟩ := pos_surj _ hb (show q < n by omega)
    obtain ⟨j, hj, rfl⟩ := pos_surj _ hb hr
    rw [hH i hi, hH j hj]
    rcases pos_inv _ hj hqr with h1 | ⟨h1, h2⟩
    · exact .inl (low_byte (hG i hi) (hG j hj) d h1)
    · rw [low_succ (hG i hi), low_succ (hG j hj)]
      rw [h1]
      rcases h.2 T hT i j h2 hj with h3 | ⟨h3, h4⟩
      · exact .inl (by omega)
      · exact .inr ⟨by omega, h4⟩
/-- A pass that is left out. -/
theorem st_skip {n d v : Nat} {F G : Nat → Int × Int} (hF : ∀ i, i < n → 0 ≤ (F i).1) (h : St n F d G) (hc : cnt (fun i => byteAt (F i).1 d) v n = n) : St n F (d + 1) G := by
  rw [← st_cnt h] at hc
  have := cnt_full _ hc
  refine st_pass hF h fun i hi => ?_
  rw [pos_same _ this hi]
/-- What stands at the end. -/
theorem st_end {n : Nat} {F G : Nat → Int × Int} (hF : ∀ i, i < n → 0 ≤ (F i).1 ∧ (F i).1 < 18446744073709551616) (h : St n F 8 G) (T : Int × Int → Int × Int → Prop) (hT : ∀ i j, i < j → j < n → T (F i) (F j)) :
    ∀ i j, i < j → j < n → (G i).1 < (G j).1 ∨ ((G i).1 = (G j).1 ∧ T (G i) (G j)) := by
  intro i j hij hj
  obtain ⟨a, ha, ea⟩ := st_from h i (by omega)
  obtain ⟨b, hb, eb⟩ := st_from h j hj
  have h1 := low_eight (hF a ha).1 (hF a ha).2
  have h2 := low_eight (hF b hb).1 (hF b hb).2
  rw [ea] at h1
  rw [eb] at h2
  rcases h.2 T hT i j hij hj with h3 | ⟨h3, h4⟩
  · exact .inl (by omega)
  · exact .inr ⟨by omega, h4⟩
end Go.Proofs.Qxb6600323a
