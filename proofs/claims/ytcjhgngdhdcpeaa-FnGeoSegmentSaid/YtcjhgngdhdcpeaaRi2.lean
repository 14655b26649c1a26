/- Two segments of whole numbers: plain facts. -/
import Derived.Test.YtcjhgngdhdcpeaaRi
namespace Go.Geo

theorem pos_cancel {w x : Int} (hw : 0 < w) (h : 0 ≤ w * x) : 0 ≤ x := by
  rcases Int.lt_or_le x 0 with h1 | h1
  · have := Int.mul_neg_of_pos_of_neg hw h1; omega
  · exact h1
theorem pos_cancel' {w x : Int} (hw : 0 < w) (h : w * x ≤ 0) : x ≤ 0 := by
  rcases Int.lt_or_le 0 x with h1 | h1
  · have := Int.mul_pos hw h1; omega
  · exact h1

theorem part_pos {w t y : Int} (h0 : 0 ≤ t) (h1 : t ≤ w) : (0 ≤ y → 0 ≤ t * y ∧ t * y ≤ w * y) ∧ (y ≤ 0 → w * y ≤ t * y ∧ t * y ≤ 0) := by
  constructor
  · intro hy
    exact ⟨Int.mul_nonneg h0 hy, Int.mul_le_mul_of_nonneg_right h1 hy⟩
  · intro hy
    have a := Int.mul_nonneg h0 (show 0 ≤ -y by omega)
    have b := Int.mul_le_mul_of_nonneg_right h1 (show 0 ≤ -y by omega)
    rw [Int.mul_neg, Int.mul_neg] at b
    rw [Int.mul_neg] at a
    omega

theorem L1p {w t x y : Int} (hw : 0 < w) (h0 : 0 ≤ t) (h1 : t ≤ w) (h : w * x = t * y) : btw 0 y x := by
  obtain ⟨p, q⟩ := part_pos (y := y) h0 h1
  have hs : w * (y - x) = w * y - w * x := Int.mul_sub _ _ _
  rcases Int.lt_or_le y 0 with hy | hy
  · obtain ⟨q1, q2⟩ := q (by omega)
    refine .inr ⟨?_, pos_cancel' hw (by omega)⟩
    have := pos_cancel' hw (x := y - x) (by omega)
    omega
  · obtain ⟨p1, p2⟩ := p hy
    refine .inl ⟨pos_cancel hw (by omega), ?_⟩
    have := pos_cancel hw (x := y - x) (by omega)
    omega

theorem L1 {w t x y : Int} (hw : w ≠ 0) (ht : btw 0 w t) (h : w * x = t * y) : btw 0 y x := by
  rcases Int.lt_or_le w 0 with hn | hn
  · have ht' : 0 ≤ -t ∧ -t ≤ -w := by unfold btw at ht; omega
    exact L1p (w := -w) (t := -t) (by omega) ht'.1 ht'.2 (by rw [Int.neg_mul, Int.neg_mul, h])
  · have ht' : 0 ≤ t ∧ t ≤ w := by unfold btw at ht; omega
    exact L1p (by omega) ht'.1 ht'.2 h

theorem L2p {w t u A B C D : Int} (hw : 0 < w) (t0 : 0 ≤ t) (t1 : t ≤ w) (u0 : 0 ≤ u) (u1 : u ≤ w) (h : w * (A - C) + t * (B - A) = u * (D - C)) : ¬ (max A B < min C D ∨ max C D < min A B) := by
  obtain ⟨p, q⟩ := part_pos (y := B - A) t0 t1
  obtain ⟨p', q'⟩ := part_pos (y := D - C) u0 u1
  have e1 : w * (B - C) = w * (A - C) + w * (B - A) := by rw [← Int.mul_add]; congr 1; omega
  have e2 : w * (B - D) = w * (A - C) + w * (B - A) - w * (D - C) := by rw [← Int.mul_add, ← Int.mul_sub]; congr 1; omega
  have e3 : w * (A - D) = w * (A - C) - w * (D - C) := by rw [← Int.mul_sub]; congr 1; omega
  intro hh
  rcases hh with hh | hh
  · rcases Int.lt_or_le B A with hb | hb <;> rcases Int.lt_or_le D C with hd | hd
    · have := q (by omega); have := q' (by omega)
      have := pos_cancel hw (x := A - D) (by omega); omega
    · have := q (by omega); have := p' (by omega)
      have := pos_cancel hw (x := A - C) (by omega); omega
    · have := p (by omega); have := q' (by omega)
      have := pos_cancel hw (x := B - D) (by omega); omega
    · have := p (by omega); have := p' (by omega)
      have := pos_cancel hw (x := B - C) (by omega); omega
  · rcases Int.lt_or_le B A with hb | hb <;> rcases Int.lt_or_le D C with hd | hd
    · have := q (by omega); have := q' (by omega)
      have := pos_cancel' hw (x := B - C) (by omega); omega
    · have := q (by omega); have := p' (by omega)
      have := pos_cancel' hw (x := B - D) (by omega); omega
    · have := p (by omega); have := q' (by omega)
      have := pos_cancel' hw (x := A - C) (by omega); omega
    · have := p (by omega); have := p' (by omega)
      have := pos_cancel' hw (x := A - D) (by omega); omega

theorem L2 {w t u A B C D : Int} (hw : w ≠ 0) (ht : btw 0 w t) (hu : btw 0 w u) (h : w * (A - C) + t * (B - A) = u * (D - C)) : ¬ (max A B < min C D ∨ max C D < min A B) := by
  rcases Int.lt_or_le w 0 with hn | hn
  · have ht' : 0 ≤ -t ∧ -t ≤ -w := by unfold btw at ht; omega
    have hu' : 0 ≤ -u ∧ -u ≤ -w := by unfold btw at hu; omega
    exact L2p (w := -w) (t := -t) (u := -u) (by omega) ht'.1 ht'.2 hu'.1 hu'.2 (by rw [Int.neg_mul, Int.neg_mul, Int.neg_mul]; omega)
  · have ht' : 0 ≤ t ∧ t ≤ w := by unfold btw at ht; omega
    have hu' : 0 ≤ u ∧ u ≤ w := by unfold btw at hu; omega
    exact L2p (by omega) ht'.1 ht'.2 hu'.1 hu'.2 h

theorem btw_shift {a b c : Int} : btw a b c ↔ btw 0 (b - a) (c - a) := by unfold btw; omega

theorem btw_of_prod {w t : Int} (hw : w ≠ 0) : (0 ≤ t * w ∧ t.natAbs ≤ w.natAbs) ↔ btw 0 w t := by
  constructor
  · rintro ⟨h1, h2⟩
    rcases Int.lt_or_le w 0 with hn | hn
    · have : t ≤ 0 := by
        rcases Int.lt_or_le 0 t with h | h
        · have := Int.mul_neg_of_pos_of_neg h hn; omega
        · exact h
      unfold btw; omega
    · have : 0 ≤ t := by
        rcases Int.lt_or_le t 0 with h | h
        · have := Int.mul_neg_of_neg_of_pos h (show 0 < w by omega); omega
        · exact h
      unfold btw; omega
  · intro h
    rcases Int.lt_or_le w 0 with hn | hn
    · have ht : 0 ≤ -t := by unfold btw at h; omega
      have := Int.mul_nonneg ht (show 0 ≤ -w by omega)
      rw [Int.neg_mul_neg] at this
      exact ⟨this, by unfold btw at h; omega⟩
    · have ht : 0 ≤ t := by unfold btw at h; omega
      exact ⟨Int.mul_nonneg ht hn, by unfold btw at h; omega⟩

/-- Four points of a line: one end of the first segment within the second one, the other end not: an end of the second one is within the first one. -/
theorem beyond {a b c d : Int} (h1 : btw c d a) (h2 : ¬ btw c d b) : (btw a b c ∨ btw a b d) ∧ a ≠ b := by unfold btw at *; omega

/-- On a line, what is between in one coordinate is between in the other one. -/
theorem btw_line {a1 a2 b1 b2 p1 p2 : Int} (hne : a1 ≠ b1) (h : btw a1 b1 p1) (hc : (b1 - a1) * (p2 - a2) = (b2 - a2) * (p1 - a1)) : btw a2 b2 p2 := by
  rw [btw_shift] at h ⊢
  exact L1 (w := b1 - a1) (t := p1 - a1) (by omega) h (by rw [hc, Int.mul_comm])
end Go.Geo
