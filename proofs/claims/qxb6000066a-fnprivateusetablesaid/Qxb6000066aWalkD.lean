import Derived.Test.Qxb6000066aWalkB
namespace Go.Proofs.Qxb6000066a
open Go.RowKit

/-! ### zzAreaIndex: the plain function -/
def posT (tl t : Int) : Int := t - tl - (if tl ≤ 127 ∧ 127 < t then 1 else 0)
def hitB (f s rl rh tl th : Int) : Bool := decide (rl ≤ f ∧ f ≤ rh ∧ tl ≤ s ∧ s ≤ th ∧ s ≠ 127)
def area (f s rl rh tl th : Int) : Int × Bool := if hitB f s rl rh tl th = true then ((f - rl) * posT tl (th + 1) + posT tl s, true) else (0, false)

/-- What holds of the count at row r, trail t, and that the code has not been met. -/
def AtRT (f s rl rh tl th r t c : Int) : Prop := c = (r - rl) * posT tl (th + 1) + posT tl t ∧ ¬ (hitB f s rl rh tl th = true ∧ (f < r ∨ (f = r ∧ s < t)))

theorem at_start (f s rl rh tl th : Int) : AtRT f s rl rh tl th rl tl 0 := by
  refine ⟨?_, ?_⟩
  · have : posT tl tl = 0 := by unfold posT; rw [if_neg (by omega)]; omega
    simp [this]
  · rintro ⟨h, h'⟩
    have := of_decide_eq_true h
    omega
theorem at_step (f s rl rh tl th r t c : Int) (h : AtRT f s rl rh tl th r t c) (h1 : t ≠ 127) (h2 : ¬ (r = f ∧ t = s)) : AtRT f s rl rh tl th r (t + 1) (c + 1) := by
  obtain ⟨rfl, hn⟩ := h
  refine ⟨?_, ?_⟩
  · have : posT tl (t + 1) = posT tl t + 1 := by unfold posT; split <;> split <;> omega
    omega
  · rintro ⟨a, b⟩
    refine hn ⟨a, ?_⟩
    omega
theorem at_skip (f s rl rh tl th r t c : Int) (h0 : tl ≤ t) (h : AtRT f s rl rh tl th r t c) (h1 : t = 127) : AtRT f s rl rh tl th r (t + 1) c := by
  obtain ⟨rfl, hn⟩ := h
  refine ⟨?_, ?_⟩
  · have : posT tl (t + 1) = posT tl t := by unfold posT; split <;> split <;> omega
    omega
  · rintro ⟨a, b⟩
    refine hn ⟨a, ?_⟩
    have := of_decide_eq_true a
    omega
theorem at_row (f s rl rh tl th r c : Int) (h : AtRT f s rl rh tl th r (th + 1) c) : AtRT f s rl rh tl th (r + 1) tl c := by
  obtain ⟨rfl, hn⟩ := h
  refine ⟨?_, ?_⟩
  · have : posT tl tl = 0 := by unfold posT; rw [if_neg (by omega)]; omega
    rw [this, show r + 1 - rl = (r - rl) + 1 by omega, Int.add_mul]
    omega
  · rintro ⟨a, b⟩
    refine hn ⟨a, ?_⟩
    have := of_decide_eq_true a
    omega
theorem at_found (f s rl rh tl th r t c : Int) (h0 : rl ≤ r) (h1 : r ≤ rh) (h2 : tl ≤ t) (h3 : t ≤ th) (h4 : t ≠ 127) (h : AtRT f s rl rh tl th r t c) (hr : r = f) (ht : t = s) : area f s rl rh tl th = (c, true) := by
  subst hr; subst ht
  unfold area
  have hh : hitB r t rl rh tl th = true := decide_eq_true (by omega)
  rw [if_pos hh, ← h.1]
theorem at_end (f s rl rh tl th c : Int) (h : AtRT f s rl rh tl th (rh + 1) tl c) : area f s rl rh tl th = (0, false) := by
  unfold area
  rw [if_neg]
  intro a
  refine h.2 ⟨a, ?_⟩
  have := of_decide_eq_true a
  omega

theorem area_any (f s rl rh tl th : Int) (w : World) (f0 : 0 ≤ f) (f1 : f ≤ 255) (s0 : 0 ≤ s) (s1 : s ≤ 255) (r0 : 0 ≤ rl) (r1 : rl ≤ rh) (r2 : rh ≤ 255) (t0 : 0 ≤ tl) (t1 : tl ≤ th) (t2 : th ≤ 255) :
    Calls Try.prog 20 #[.int .u8 f, .int .u8 s, .int .i64 rl, .int .i64 rh, .int .i64 tl, .int .i64 th] w fun e w' =>
      e = .returned (.tuple #[.int .i64 (area f s rl rh tl th).1, .bool (area f s rl rh tl th).2]) ∧ w' = w := by
  go_enter Try.func20, Try.ntmps20
  go_wp2
  go_loop [14, 15] (fun c r => ∃ row cc : Int, rl ≤ row ∧ row ≤ rh + 1 ∧ r = .int .i64 row ∧ c = .int .i64 cc ∧ 0 ≤ cc ∧ cc ≤ 256 * (row - rl) ∧ Hid (AtRT f s rl rh tl th row tl cc)) (fun _ r => (rh + 1 - intOf r).toNat)
  case atStart => exact ⟨rl, 0, by omega, by omega, rfl, rfl, by omega, by omega, at_start _ _ _ _ _ _⟩
  case round =>
    obtain ⟨row, cc, h1, h2, rfl, rfl, h3, h4, hat⟩ := hrel
    by_cases hlt : row ≤ rh
    · go_wp2
      go_loop [14, 16] (fun c t => ∃ tt cc : Int, tl ≤ tt ∧ tt ≤ th + 1 ∧ t = .int .i64 tt ∧ c = .int .i64 cc ∧ 0 ≤ cc ∧ cc ≤ 256 * (row - rl) + (tt - tl) ∧ Hid (AtRT f s rl rh tl th row tt cc)) (fun _ t => (th + 1 - intOf t).toNat)
      case atStart => exact ⟨tl, cc, by omega, by omega, rfl, rfl, by omega, by omega, hat⟩
      case round =>
        obtain ⟨tt, c2, g1, g2, rfl, rfl, g3, g4, hat2⟩ := hrel
        by_cases hl2 : tt ≤ th
        · by_cases h127 : tt = 127
          · have e1 : (tt == 127) = true := by rw [beq_iff_eq]; exact h127
            have hs := at_skip _ _ _ _ _ _ _ _ _ g1 hat2 h127
            have HS : Hid (AtRT f s rl rh tl th row (tt + 1) c2) := hs
            clear h127 hs
            go_wp2
            go_round
            case rel => exact ⟨tt + 1, c2, by omega, by omega, rfl, rfl, by omega, by omega, HS⟩
            case measure => simp [intOf]; omega
          · have e1 : (tt == 127) = false := by rw [beq_eq_false_iff_ne]; exact h127
            by_cases hm : row = f ∧ tt = s
            · have hf := at_found _ _ _ _ _ _ _ _ _ h1 hlt g1 hl2 h127 hat2 hm.1 hm.2
              have HF : Hid (area f s rl rh tl th = (c2, true)) := hf
              have e2 : (row == f) = true := by rw [beq_iff_eq]; exact hm.1
              have e3 : (tt == s) = true := by rw [beq_iff_eq]; exact hm.2
              clear hf hm
              go_wp2
              go_ret2
              rw [HF.out]
              exact ⟨rfl, rfl⟩
            · have hs := at_step _ _ _ _ _ _ _ _ _ hat2 h127 hm
              have HS : Hid (AtRT f s rl rh tl th row (tt + 1) (c2 + 1)) := hs
              clear hs
              by_cases hrf : row = f
              · have e2 : (row == f) = true := by rw [beq_iff_eq]; exact hrf
                have e3 : (tt == s) = false := by rw [beq_eq_false_iff_ne]; exact fun h => hm ⟨hrf, h⟩
                clear hm hrf
                go_wp2
                go_round
                case rel => exact ⟨tt + 1, c2 + 1, by omega, by omega, rfl, rfl, by omega, by omega, HS⟩
                case measure => simp [intOf]; omega
              · have e2 : (row == f) = false := by rw [beq_eq_false_iff_ne]; exact hrf
                clear hm hrf
                go_wp2
                go_round
                case rel => exact ⟨tt + 1, c2 + 1, by omega, by omega, rfl, rfl, by omega, by omega, HS⟩
                case measure => simp [intOf]; omega
        · have et : tt = th + 1 := by omega
          have hr := hat2.out
          rw [et] at hr
          have HR : Hid (AtRT f s rl rh tl th (row + 1) tl c2) := at_row _ _ _ _ _ _ _ _ hr
          clear et hr
          go_wp2
          go_round
          case rel => exact ⟨row + 1, c2, by omega, by omega, rfl, rfl, by omega, by omega, HR⟩
          case measure => simp [intOf]; omega
    · have er : row = rh + 1 := by omega
      have hr := hat.out
      rw [er] at hr
      have HE : Hid (area f s rl rh tl th = (0, false)) := at_end _ _ _ _ _ _ _ hr
      clear er hr
      go_wp2
      go_ret2
      rw [HE.out]
      exact ⟨rfl, rfl⟩
end Go.Proofs.Qxb6000066a
