/- Points and segments of whole numbers: on it, left of it (the plain law of Segment.Raycast). -/
namespace Go.Geo

def cross (a1 a2 b1 b2 p1 p2 : Int) : Int := (b1 - a1) * (p2 - a2) - (b2 - a2) * (p1 - a1)
def btw (a b p : Int) : Prop := (a ≤ p ∧ p ≤ b) ∨ (b ≤ p ∧ p ≤ a)
def On (a1 a2 b1 b2 p1 p2 : Int) : Prop := btw a1 b1 p1 ∧ btw a2 b2 p2 ∧ cross a1 a2 b1 b2 p1 p2 = 0
def Lft (a1 a2 b1 b2 p1 p2 : Int) : Prop := (b2 < a2 ∧ b2 ≤ p2 ∧ p2 < a2 ∧ 0 < cross b1 b2 a1 a2 p1 p2) ∨ (a2 ≤ b2 ∧ a2 ≤ p2 ∧ p2 < b2 ∧ 0 < cross a1 a2 b1 b2 p1 p2)

instance (a b p : Int) : Decidable (btw a b p) := by unfold btw; infer_instance
instance (a1 a2 b1 b2 p1 p2 : Int) : Decidable (On a1 a2 b1 b2 p1 p2) := by unfold On; infer_instance
instance (a1 a2 b1 b2 p1 p2 : Int) : Decidable (Lft a1 a2 b1 b2 p1 p2) := by unfold Lft; infer_instance

section
variable {a1 a2 b1 b2 p1 p2 : Int}

theorem cross_swap : cross b1 b2 a1 a2 p1 p2 = -cross a1 a2 b1 b2 p1 p2 := by
  unfold cross
  have e1 : (a1 - b1) * (p2 - b2) = (b1 - a1) * b2 - (b1 - a1) * p2 := by
    rw [show a1 - b1 = -(b1 - a1) by omega, show p2 - b2 = -(b2 - p2) by omega, Int.neg_mul_neg, Int.mul_sub]
  have e2 : (a2 - b2) * (p1 - b1) = (b2 - a2) * b1 - (b2 - a2) * p1 := by
    rw [show a2 - b2 = -(b2 - a2) by omega, show p1 - b1 = -(b1 - p1) by omega, Int.neg_mul_neg, Int.mul_sub]
  have e3 : (b1 - a1) * (p2 - a2) = (b1 - a1) * p2 - (b1 - a1) * a2 := Int.mul_sub _ _ _
  have e4 : (b2 - a2) * (p1 - a1) = (b2 - a2) * p1 - (b2 - a2) * a1 := Int.mul_sub _ _ _
  have e5 : (b1 - a1) * b2 = b1 * b2 - a1 * b2 := Int.sub_mul _ _ _
  have e6 : (b1 - a1) * a2 = b1 * a2 - a1 * a2 := Int.sub_mul _ _ _
  have e7 : (b2 - a2) * b1 = b2 * b1 - a2 * b1 := Int.sub_mul _ _ _
  have e8 : (b2 - a2) * a1 = b2 * a1 - a2 * a1 := Int.sub_mul _ _ _
  rw [Int.mul_comm b2 b1, Int.mul_comm a2 b1] at e7
  rw [Int.mul_comm b2 a1, Int.mul_comm a2 a1] at e8
  rw [e1, e2, e3, e4]
  omega

theorem btw_swap {a b p : Int} : btw b a p ↔ btw a b p := by unfold btw; omega
theorem On_swap : On b1 b2 a1 a2 p1 p2 ↔ On a1 a2 b1 b2 p1 p2 := by
  unfold On; rw [cross_swap]; constructor <;> rintro ⟨h1, h2, h3⟩ <;> exact ⟨btw_swap.1 h1, btw_swap.1 h2, by omega⟩

/-- On the line, and between the heights: between the sides, too. -/
theorem btw_of_line (h0 : a2 < b2) (h1 : a2 ≤ p2) (h2 : p2 ≤ b2) (h : cross a1 a2 b1 b2 p1 p2 = 0) : btw a1 b1 p1 := by
  unfold cross at h
  have hB : 0 < b2 - a2 := by omega
  have ht0 : 0 ≤ p2 - a2 := by omega
  have ht1 : p2 - a2 ≤ b2 - a2 := by omega
  generalize hBe : b2 - a2 = B at *
  generalize p2 - a2 = t at *
  rcases Int.lt_or_le b1 a1 with hA | hA
  · -- to the left
    refine .inr ⟨?_, ?_⟩
    · rcases Int.lt_or_le p1 b1 with hp | hp
      · have e : (b1 - a1) * B ≤ (b1 - a1) * t := Int.mul_le_mul_of_nonpos_left (by omega) ht1
        have e2 : B * (p1 - a1) < B * (b1 - a1) := Int.mul_lt_mul_of_pos_left (by omega) hB
        rw [Int.mul_comm B (b1 - a1)] at e2
        omega
      · exact hp
    · rcases Int.lt_or_le a1 p1 with hp | hp
      · have e : (b1 - a1) * t ≤ 0 := Int.mul_nonpos_of_nonpos_of_nonneg (by omega) ht0
        have e2 : 0 < B * (p1 - a1) := Int.mul_pos hB (by omega)
        omega
      · exact hp
  · refine .inl ⟨?_, ?_⟩
    · rcases Int.lt_or_le p1 a1 with hp | hp
      · have e : 0 ≤ (b1 - a1) * t := Int.mul_nonneg (by omega) ht0
        have e2 : B * (p1 - a1) < 0 := Int.mul_neg_of_pos_of_neg hB (by omega)
        omega
      · exact hp
    · rcases Int.lt_or_le b1 p1 with hp | hp
      · have e : (b1 - a1) * t ≤ (b1 - a1) * B := Int.mul_le_mul_of_nonneg_left ht1 (by omega)
        have e2 : B * (b1 - a1) < B * (p1 - a1) := Int.mul_lt_mul_of_pos_left (by omega) hB
        rw [Int.mul_comm B (b1 - a1)] at e2
        omega
      · exact hp

/-- Right of both ends it is not left. -/
theorem cross_right (h1 : a2 ≤ p2) (h2 : p2 < b2) (h3 : a1 ≤ p1) (h4 : b1 ≤ p1) : cross a1 a2 b1 b2 p1 p2 ≤ 0 := by
  unfold cross
  have e2 : 0 ≤ (b2 - a2) * (p1 - a1) := Int.mul_nonneg (by omega) (by omega)
  rcases Int.lt_or_le b1 a1 with hA | hA
  · have e : (b1 - a1) * (p2 - a2) ≤ 0 := Int.mul_nonpos_of_nonpos_of_nonneg (by omega) (by omega)
    omega
  · have e : (b1 - a1) * (p2 - a2) ≤ (b1 - a1) * (b2 - a2) := Int.mul_le_mul_of_nonneg_left (by omega) (by omega)
    have e3 : (b2 - a2) * (b1 - a1) ≤ (b2 - a2) * (p1 - a1) := Int.mul_le_mul_of_nonneg_left (by omega) (by omega)
    rw [Int.mul_comm (b2 - a2) (b1 - a1)] at e3
    omega

/-- Lft of both ends it is left, or on the line. -/
theorem cross_left (h1 : a2 ≤ p2) (h2 : p2 < b2) (h3 : p1 ≤ a1) (h4 : p1 ≤ b1) : 0 ≤ cross a1 a2 b1 b2 p1 p2 := by
  unfold cross
  have e2 : (b2 - a2) * (p1 - a1) ≤ 0 := Int.mul_nonpos_of_nonneg_of_nonpos (by omega) (by omega)
  rcases Int.lt_or_le a1 b1 with hA | hA
  · have e : 0 ≤ (b1 - a1) * (p2 - a2) := Int.mul_nonneg (by omega) (by omega)
    omega
  · have e : (b1 - a1) * (b2 - a2) ≤ (b1 - a1) * (p2 - a2) := Int.mul_le_mul_of_nonpos_left (by omega) (by omega)
    have e3 : (b2 - a2) * (p1 - a1) ≤ (b2 - a2) * (b1 - a1) := Int.mul_le_mul_of_nonneg_left (by omega) (by omega)
    rw [Int.mul_comm (b2 - a2) (b1 - a1)] at e3
    omega

theorem not_On_line (hn : ¬ On a1 a2 b1 b2 p1 p2) (h1 : a2 ≤ p2) (h2 : p2 < b2) : cross a1 a2 b1 b2 p1 p2 ≠ 0 := fun h =>
  hn ⟨btw_of_line (by omega) h1 (by omega) h, .inl ⟨h1, by omega⟩, h⟩

end
end Go.Geo
