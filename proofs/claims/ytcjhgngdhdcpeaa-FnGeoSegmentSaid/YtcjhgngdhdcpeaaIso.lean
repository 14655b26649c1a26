/- What the code says of two segments is that they meet, unless the first one is covered by the second one. -/
import Derived.Test.YtcjhgngdhdcpeaaSeg2
import Derived.Test.YtcjhgngdhdcpeaaRi2
namespace Go.Proofs.Try.Sx
open Go.Geo

theorem sgn_neg {x y : Int} : sgn x * sgn y < 0 ↔ (0 < x ∧ y < 0) ∨ (x < 0 ∧ 0 < y) := by
  unfold sgn
  rcases Int.lt_trichotomy x 0 with h1 | h1 | h1 <;> rcases Int.lt_trichotomy y 0 with h2 | h2 | h2
  all_goals (repeat' split) <;> omega

section
variable {a1 a2 b1 b2 c1 c2 d1 d2 : Int}

/-- The four sides by three numbers. -/
structure Sides (a1 a2 b1 b2 c1 c2 d1 d2 u w t : Int) : Prop where
  sc : cross a1 a2 b1 b2 c1 c2 = -u
  sd : cross a1 a2 b1 b2 d1 d2 = w - u
  pa : cross c1 c2 d1 d2 a1 a2 = t
  pb : cross c1 c2 d1 d2 b1 b2 = t - w
  m1 : w * (a1 - c1) + t * (b1 - a1) = u * (d1 - c1)
  m2 : w * (a2 - c2) + t * (b2 - a2) = u * (d2 - c2)

theorem sides : Sides a1 a2 b1 b2 c1 c2 d1 d2 (xp (c1 - a1) (c2 - a2) (b1 - a1) (b2 - a2)) (xp (b1 - a1) (b2 - a2) (d1 - c1) (d2 - c2)) (xp (c1 - a1) (c2 - a2) (d1 - c1) (d2 - c2)) := by
  constructor <;> unfold xp <;> (try unfold cross) <;> simp only [Int.mul_sub, Int.sub_mul, Int.mul_add, Int.add_mul, Int.mul_comm, Int.mul_left_comm, Int.mul_assoc] <;> omega

theorem ends_meet (h : ¬ noEnds a1 a2 b1 b2 c1 c2 d1 d2) : On a1 a2 b1 b2 c1 c2 ∨ On a1 a2 b1 b2 d1 d2 := by
  unfold noEnds at h
  have h : (a1 = c1 ∧ a2 = c2) ∨ (a1 = d1 ∧ a2 = d2) ∨ (b1 = c1 ∧ b2 = c2) ∨ (b1 = d1 ∧ b2 = d2) := Decidable.not_not.1 h
  have e1 : ∀ x y z v : Int, On x y z v x y := fun x y z v => ⟨by unfold btw; omega, by unfold btw; omega, by unfold cross; simp⟩
  have e2 : ∀ x y z v : Int, On x y z v z v := fun x y z v => ⟨by unfold btw; omega, by unfold btw; omega, by unfold cross; rw [Int.mul_comm]; omega⟩
  rcases h with ⟨rfl, rfl⟩ | ⟨rfl, rfl⟩ | ⟨rfl, rfl⟩ | ⟨rfl, rfl⟩
  · exact .inl (e1 _ _ _ _)
  · exact .inr (e1 _ _ _ _)
  · exact .inl (e2 _ _ _ _)
  · exact .inr (e2 _ _ _ _)

variable {u w t : Int} (H : Sides a1 a2 b1 b2 c1 c2 d1 d2 u w t)
include H

theorem on_c : On a1 a2 b1 b2 c1 c2 ↔ btw a1 b1 c1 ∧ btw a2 b2 c2 ∧ u = 0 := by unfold On; rw [H.sc]; constructor <;> (rintro ⟨h1, h2, h3⟩; exact ⟨h1, h2, by omega⟩)
theorem on_d : On a1 a2 b1 b2 d1 d2 ↔ btw a1 b1 d1 ∧ btw a2 b2 d2 ∧ w = u := by unfold On; rw [H.sd]; constructor <;> (rintro ⟨h1, h2, h3⟩; exact ⟨h1, h2, by omega⟩)
theorem on_a : On c1 c2 d1 d2 a1 a2 ↔ btw c1 d1 a1 ∧ btw c2 d2 a2 ∧ t = 0 := by unfold On; rw [H.pa]
theorem on_b : On c1 c2 d1 d2 b1 b2 ↔ btw c1 d1 b1 ∧ btw c2 d2 b2 ∧ t = w := by unfold On; rw [H.pb]; constructor <;> (rintro ⟨h1, h2, h3⟩; exact ⟨h1, h2, by omega⟩)

theorem half_on (hu : u = 0) (h : half a1 b1 c1 ∨ half a2 b2 c2) : On a1 a2 b1 b2 c1 c2 := by
  have hc : (b1 - a1) * (c2 - a2) = (b2 - a2) * (c1 - a1) := by have := H.sc; unfold cross at this; omega
  rw [on_c H]
  rcases h with h | h
  · have hb : btw a1 b1 c1 := by unfold half at h; unfold btw; omega
    exact ⟨hb, btw_line (by unfold half at h; omega) hb hc, hu⟩
  · have hb : btw a2 b2 c2 := by unfold half at h; unfold btw; omega
    exact ⟨btw_line (by unfold half at h; omega) hb hc.symm, hb, hu⟩

/-- Where the middle part of the code says so, they meet. -/
theorem third_meet (hw : w ≠ 0) (ht : btw 0 w t) (hu : btw 0 w u) : GMeet a1 a2 b1 b2 c1 c2 d1 d2 := by
  unfold GMeet
  rw [on_c H, on_d H, on_a H, on_b H, H.sc, H.sd, H.pa, H.pb, sgn_neg, sgn_neg]
  by_cases h1 : u = w
  · right; left
    have k1 : w * (d1 - a1) = t * (b1 - a1) := by have := H.m1; rw [h1] at this; have e : w * (d1 - c1) = w * (d1 - a1) + w * (a1 - c1) := by rw [← Int.mul_add]; congr 1; omega
                                                  omega
    have k2 : w * (d2 - a2) = t * (b2 - a2) := by have := H.m2; rw [h1] at this; have e : w * (d2 - c2) = w * (d2 - a2) + w * (a2 - c2) := by rw [← Int.mul_add]; congr 1; omega
                                                  omega
    exact ⟨btw_shift.2 (L1 hw ht k1), btw_shift.2 (L1 hw ht k2), h1.symm⟩
  · by_cases h2 : t = 0
    · right; right; left
      have k1 : w * (a1 - c1) = u * (d1 - c1) := by have := H.m1; rw [h2, Int.zero_mul] at this; omega
      have k2 : w * (a2 - c2) = u * (d2 - c2) := by have := H.m2; rw [h2, Int.zero_mul] at this; omega
      exact ⟨btw_shift.2 (L1 hw hu k1), btw_shift.2 (L1 hw hu k2), h2⟩
    · by_cases h3 : t = w
      · right; right; right; left
        have k1 : w * (b1 - c1) = u * (d1 - c1) := by
          have := H.m1; rw [h3] at this
          have e : w * (b1 - c1) = w * (a1 - c1) + w * (b1 - a1) := by rw [← Int.mul_add]; congr 1; omega
          omega
        have k2 : w * (b2 - c2) = u * (d2 - c2) := by
          have := H.m2; rw [h3] at this
          have e : w * (b2 - c2) = w * (a2 - c2) + w * (b2 - a2) := by rw [← Int.mul_add]; congr 1; omega
          omega
        exact ⟨btw_shift.2 (L1 hw hu k1), btw_shift.2 (L1 hw hu k2), h3⟩
      · by_cases h4 : u = 0
        · left
          have k1 : w * (c1 - a1) = t * (b1 - a1) := by
            have := H.m1; rw [h4, Int.zero_mul] at this
            have e : w * (c1 - a1) = -(w * (a1 - c1)) := by rw [← Int.mul_neg]; congr 1; omega
            omega
          have k2 : w * (c2 - a2) = t * (b2 - a2) := by
            have := H.m2; rw [h4, Int.zero_mul] at this
            have e : w * (c2 - a2) = -(w * (a2 - c2)) := by rw [← Int.mul_neg]; congr 1; omega
            omega
          exact ⟨btw_shift.2 (L1 hw ht k1), btw_shift.2 (L1 hw ht k2), h4⟩
        · right; right; right; right
          unfold btw at ht hu
          omega

end

theorem box_of {a1 a2 b1 b2 c1 c2 d1 d2 : Int} (h : (On a1 a2 b1 b2 c1 c2 ∨ On a1 a2 b1 b2 d1 d2) ∨ (On c1 c2 d1 d2 a1 a2 ∨ On c1 c2 d1 d2 b1 b2)) : yMeet a2 b2 c2 d2 ∧ yMeet a1 b1 c1 d1 := by
  unfold yMeet
  rcases h with (h | h) | (h | h) <;> (have h1 := h.1; have h2 := h.2.1; unfold btw at h1 h2; omega)

/-- One end on the second segment, the other one on its line beyond it: an end of that one is on the first one. -/
theorem line_case {a1 a2 b1 b2 c1 c2 d1 d2 : Int} (ha : On c1 c2 d1 d2 a1 a2) (hb : ¬ On c1 c2 d1 d2 b1 b2) (hc0 : cross a1 a2 b1 b2 c1 c2 = 0) (hd0 : cross a1 a2 b1 b2 d1 d2 = 0) (hb0 : cross c1 c2 d1 d2 b1 b2 = 0) :
    On a1 a2 b1 b2 c1 c2 ∨ On a1 a2 b1 b2 d1 d2 := by
  have hc' : (b1 - a1) * (c2 - a2) = (b2 - a2) * (c1 - a1) := by unfold cross at hc0; omega
  have hd' : (b1 - a1) * (d2 - a2) = (b2 - a2) * (d1 - a1) := by unfold cross at hd0; omega
  have hb' : (d1 - c1) * (b2 - c2) = (d2 - c2) * (b1 - c1) := by unfold cross at hb0; omega
  by_cases h1 : c1 = d1
  · by_cases h2 : c2 = d2
    · left
      have g1 := ha.1
      have g2 := ha.2.1
      refine ⟨?_, ?_, hc0⟩ <;> unfold btw at * <;> omega
    · have hn : ¬ btw c2 d2 b2 := fun hh => hb ⟨btw_line h2 hh hb'.symm, hh, hb0⟩
      obtain ⟨g, hne⟩ := beyond ha.2.1 hn
      rcases g with g | g
      · exact .inl ⟨btw_line hne g hc'.symm, g, hc0⟩
      · exact .inr ⟨btw_line hne g hd'.symm, g, hd0⟩
  · have hn : ¬ btw c1 d1 b1 := fun hh => hb ⟨hh, btw_line h1 hh hb', hb0⟩
    obtain ⟨g, hne⟩ := beyond ha.1 hn
    rcases g with g | g
    · exact .inl ⟨g, btw_line hne g hc', hc0⟩
    · exact .inr ⟨g, btw_line hne g hd', hd0⟩

theorem Isec_GMeet {a1 a2 b1 b2 c1 c2 d1 d2 : Int} (hcov : ¬ GCov a1 a2 b1 b2 c1 c2 d1 d2) : Isec a1 a2 b1 b2 c1 c2 d1 d2 ↔ GMeet a1 a2 b1 b2 c1 c2 d1 d2 := by
  have H := sides (a1 := a1) (a2 := a2) (b1 := b1) (b2 := b2) (c1 := c1) (c2 := c2) (d1 := d1) (d2 := d2)
  unfold Isec
  generalize hU : xp (c1 - a1) (c2 - a2) (b1 - a1) (b2 - a2) = u at *
  generalize hW : xp (b1 - a1) (b2 - a2) (d1 - c1) (d2 - c2) = w at *
  generalize hT : xp (c1 - a1) (c2 - a2) (d1 - c1) (d2 - c2) = t at *
  constructor
  · rintro ⟨y2, y1, h⟩
    rcases h with h | ⟨hu, h⟩ | ⟨hu, hw, h1, h2, h3, h4⟩
    · rcases ends_meet h with h | h
      · exact .inl h
      · exact .inr (.inl h)
    · rcases h with h | h | h | h
      · exact .inl (half_on H hu (.inl h))
      · exact .inl (half_on H hu (.inr h))
      · exact .inl h
      · exact .inr (.inl h)
    · exact third_meet H hw ((btw_of_prod hw).1 ⟨h1, h2⟩) ((btw_of_prod hw).1 ⟨h3, h4⟩)
  · intro hm
    by_cases hw : w = 0
    · by_cases hu : u = 0
      · -- all on one line
        have hc0 : cross a1 a2 b1 b2 c1 c2 = 0 := by rw [H.sc]; omega
        have hd0 : cross a1 a2 b1 b2 d1 d2 = 0 := by rw [H.sd]; omega
        have hab : On a1 a2 b1 b2 c1 c2 ∨ On a1 a2 b1 b2 d1 d2 := by
          rcases hm with h | h | h | h | h
          · exact .inl h
          · exact .inr h
          · by_cases hb : On c1 c2 d1 d2 b1 b2
            · exact Classical.byContradiction fun hn => hcov ⟨h, hb, fun g => hn (.inl g), fun g => hn (.inr g)⟩
            · exact line_case h hb hc0 hd0 (by rw [H.pb]; have := H.pa; have := h.2.2; omega)
          · by_cases ha : On c1 c2 d1 d2 a1 a2
            · exact Classical.byContradiction fun hn => hcov ⟨ha, h, fun g => hn (.inl g), fun g => hn (.inr g)⟩
            · have := line_case (a1 := b1) (a2 := b2) (b1 := a1) (b2 := a2) h ha (by rw [cross_swap, hc0]; rfl) (by rw [cross_swap, hd0]; rfl) (by rw [H.pa]; have := H.pb; have := h.2.2; omega)
              rcases this with g | g
              · exact .inl (On_swap.1 g)
              · exact .inr (On_swap.1 g)
          · exfalso
            have := h.1
            rw [hc0, sgn_neg] at this
            omega
        obtain ⟨y2, y1⟩ := box_of (.inl hab)
        exact ⟨y2, y1, .inr (.inl ⟨hu, by rcases hab with h | h; exact .inr (.inr (.inl h)); exact .inr (.inr (.inr h))⟩)⟩
      · -- side by side
        exfalso
        have m1 := H.m1
        have m2 := H.m2
        have hcd : ∀ x : Int, 0 = u * x → x = 0 := fun x hx => by
          rcases Int.mul_eq_zero.1 hx.symm with h | h
          · exact absurd h hu
          · exact h
        rw [hw, Int.zero_mul] at m1 m2
        rcases hm with h | h | h | h | h
        · exact hu ((on_c H).1 h).2.2
        · have := ((on_d H).1 h).2.2; omega
        · obtain ⟨g1, g2, g3⟩ := (on_a H).1 h
          rw [g3, Int.zero_mul] at m1 m2
          have e1 := hcd _ m1
          have e2 := hcd _ m2
          apply hu
          rw [← hU]
          have : c1 - a1 = 0 := by unfold btw at g1; omega
          have : c2 - a2 = 0 := by unfold btw at g2; omega
          unfold xp
          simp [*]
        · obtain ⟨g1, g2, g3⟩ := (on_b H).1 h
          rw [g3, hw, Int.zero_mul] at m1 m2
          have e1 := hcd _ m1
          have e2 := hcd _ m2
          apply hu
          rw [← hU]
          have e3 : c1 - a1 = b1 - a1 := by unfold btw at g1; omega
          have e4 : c2 - a2 = b2 - a2 := by unfold btw at g2; omega
          unfold xp
          rw [e3, e4, Int.mul_comm]; omega
        · have := h.2
          rw [H.pa, H.pb, sgn_neg] at this
          omega
    · by_cases hu : u = 0
      · have hc : On a1 a2 b1 b2 c1 c2 ∨ ¬ noEnds a1 a2 b1 b2 c1 c2 d1 d2 := by
          have hz : ∀ x : Int, w * x = 0 → x = 0 := fun x hx => by
            rcases Int.mul_eq_zero.1 hx with h | h
            · exact absurd h hw
            · exact h
          have m1 := H.m1
          have m2 := H.m2
          rw [hu, Int.zero_mul] at m1 m2
          rcases hm with h | h | h | h | h
          · exact .inl h
          · have := ((on_d H).1 h).2.2; omega
          · have g3 := ((on_a H).1 h).2.2
            rw [g3, Int.zero_mul] at m1 m2
            have e1 := hz (a1 - c1) (by omega)
            have e2 := hz (a2 - c2) (by omega)
            right; unfold noEnds; omega
          · have g3 := ((on_b H).1 h).2.2
            rw [g3, ← Int.mul_add] at m1 m2
            have e1 := hz _ m1
            have e2 := hz _ m2
            right; unfold noEnds; omega
          · have := h.1
            rw [H.sc, hu, sgn_neg] at this
            omega
        rcases hc with h | h
        · obtain ⟨y2, y1⟩ := box_of (d1 := d1) (d2 := d2) (.inl (.inl h))
          exact ⟨y2, y1, .inr (.inl ⟨hu, .inr (.inr (.inl h))⟩)⟩
        · obtain ⟨y2, y1⟩ := box_of (.inl (ends_meet h))
          exact ⟨y2, y1, .inl h⟩
      · have hb : btw 0 w t ∧ btw 0 w u := by
          have m1 := H.m1
          have m2 := H.m2
          have hab : a1 ≠ b1 ∨ a2 ≠ b2 := by
            apply Classical.byContradiction
            intro hn
            apply hw
            rw [← hW]
            have : b1 - a1 = 0 := by omega
            have : b2 - a2 = 0 := by omega
            unfold xp
            simp [*]
          have hcd : c1 ≠ d1 ∨ c2 ≠ d2 := by
            apply Classical.byContradiction
            intro hn
            apply hw
            rw [← hW]
            have : d1 - c1 = 0 := by omega
            have : d2 - c2 = 0 := by omega
            unfold xp
            simp [*]
          rcases hm with h | h | h | h | h
          · exact absurd ((on_c H).1 h).2.2 hu
          · obtain ⟨g1, g2, g3⟩ := (on_d H).1 h
            refine ⟨?_, by rw [g3]; unfold btw; omega⟩
            have k1 : (b1 - a1) * t = (d1 - a1) * w := by
              rw [← g3] at m1
              have e : w * (d1 - c1) = w * (d1 - a1) + w * (a1 - c1) := by rw [← Int.mul_add]; congr 1; omega
              rw [Int.mul_comm (b1 - a1), Int.mul_comm (d1 - a1)]; omega
            have k2 : (b2 - a2) * t = (d2 - a2) * w := by
              rw [← g3] at m2
              have e : w * (d2 - c2) = w * (d2 - a2) + w * (a2 - c2) := by rw [← Int.mul_add]; congr 1; omega
              rw [Int.mul_comm (b2 - a2), Int.mul_comm (d2 - a2)]; omega
            rcases hab with hne | hne
            · exact L1 (by omega) (btw_shift.1 g1) k1
            · exact L1 (by omega) (btw_shift.1 g2) k2
          · obtain ⟨g1, g2, g3⟩ := (on_a H).1 h
            refine ⟨by rw [g3]; unfold btw; omega, ?_⟩
            rw [g3, Int.zero_mul] at m1 m2
            have k1 : (d1 - c1) * u = (a1 - c1) * w := by rw [Int.mul_comm (d1 - c1), Int.mul_comm (a1 - c1)]; omega
            have k2 : (d2 - c2) * u = (a2 - c2) * w := by rw [Int.mul_comm (d2 - c2), Int.mul_comm (a2 - c2)]; omega
            rcases hcd with hne | hne
            · exact L1 (by omega) (btw_shift.1 g1) k1
            · exact L1 (by omega) (btw_shift.1 g2) k2
          · obtain ⟨g1, g2, g3⟩ := (on_b H).1 h
            refine ⟨by rw [g3]; unfold btw; omega, ?_⟩
            rw [g3] at m1 m2
            have k1 : (d1 - c1) * u = (b1 - c1) * w := by
              have e : w * (b1 - c1) = w * (a1 - c1) + w * (b1 - a1) := by rw [← Int.mul_add]; congr 1; omega
              rw [Int.mul_comm (d1 - c1), Int.mul_comm (b1 - c1)]; omega
            have k2 : (d2 - c2) * u = (b2 - c2) * w := by
              have e : w * (b2 - c2) = w * (a2 - c2) + w * (b2 - a2) := by rw [← Int.mul_add]; congr 1; omega
              rw [Int.mul_comm (d2 - c2), Int.mul_comm (b2 - c2)]; omega
            rcases hcd with hne | hne
            · exact L1 (by omega) (btw_shift.1 g1) k1
            · exact L1 (by omega) (btw_shift.1 g2) k2
          · rw [H.sc, H.sd, H.pa, H.pb, sgn_neg, sgn_neg] at h
            unfold btw
            omega
        exact ⟨L2 hw hb.1 hb.2 H.m2, L2 hw hb.1 hb.2 H.m1, .inr (.inr ⟨hu, hw, ((btw_of_prod hw).2 hb.1).1, ((btw_of_prod hw).2 hb.1).2, ((btw_of_prod hw).2 hb.2).1, ((btw_of_prod hw).2 hb.2).2⟩)⟩
end Go.Proofs.Try.Sx
