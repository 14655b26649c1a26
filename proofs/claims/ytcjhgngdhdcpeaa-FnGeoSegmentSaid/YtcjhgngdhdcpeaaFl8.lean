/- The slope from an end to a point against the segment's slope. -/
import Derived.Test.YtcjhgngdhdcpeaaFl7
import Derived.Test.YtcjhgngdhdcpeaaRi
namespace Go.Fl
open Ieee Go.Sx Go.Geo

theorem small_lt {k : Nat} (hk : k ≤ 1047) : 2 ^ k < 2 ^ (U1 - 25) := (Nat.pow_lt_pow_iff_right (by decide)).2 (by have : U1 = 1074 := rfl; omega)

theorem slope {lx ly ux uy px q : Nat} {l1 l2 u1 u2 p1 p2 : Int} (h1 : FI lx l1) (h2 : FI ly l2) (h3 : FI ux u1) (h4 : FI uy u2) (h5 : FI px p1)
    (b1 : l1.natAbs ≤ 2 ^ 22) (b2 : l2.natAbs ≤ 2 ^ 22) (b3 : u1.natAbs ≤ 2 ^ 22) (b4 : u2.natAbs ≤ 2 ^ 22) (b5 : p1.natAbs ≤ 2 ^ 22) (b6 : p2.natAbs ≤ 2 ^ 22)
    (hy : l2 ≤ p2 ∧ p2 < u2) (hx : (l1 < p1 ∧ p1 < u1) ∨ (u1 < p1 ∧ p1 < l1)) (hq : (FI q p2 ∧ p2 ≠ l2) ∨ (Near q p2 ∧ p2 = l2)) :
    fok .sub .f64 q ly ∧ fok .sub .f64 px lx ∧ fok .sub .f64 uy ly ∧ fok .sub .f64 ux lx ∧
    ∀ r w, QuoRel .f64 (fop .sub .f64 q ly) (fop .sub .f64 px lx) r → QuoRel .f64 (fop .sub .f64 uy ly) (fop .sub .f64 ux lx) w → fGe .f64 r w = decide (0 ≤ cross l1 l2 u1 u2 p1 p2) := by
  obtain ⟨s2, d2⟩ := sub_I h5 h1 b5 b1
  obtain ⟨s3, d3⟩ := sub_I h4 h2 b4 b2
  obtain ⟨s4, d4⟩ := sub_I h3 h1 b3 b1
  have hcross : cross l1 l2 u1 u2 p1 p2 = (p2 - l2) * (u1 - l1) - (u2 - l2) * (p1 - l1) := by
    unfold cross; rw [Int.mul_comm (u1 - l1)]
  have hnum : u2 - l2 ≠ 0 := by omega
  have hd1 : p1 - l1 ≠ 0 := by omega
  have hd2 : u1 - l1 ≠ 0 := by omega
  rcases hq with ⟨hq, hne⟩ | ⟨hq, heq⟩
  · obtain ⟨s1, d1⟩ := sub_I hq h2 b6 b2
    refine ⟨s1, s2, s3, s4, fun r w hr hw => ?_⟩
    obtain ⟨g1, g2⟩ := quo_fin hr d1 d2 hd1 (by omega) (by omega)
    obtain ⟨g3, g4⟩ := quo_fin hw d3 d4 hd2 (by omega) (by omega)
    rw [fge_V g1 g3]
    have hpos : 0 < (u1 - l1) * (p1 - l1) := by
      rcases hx with hx | hx
      · exact Int.mul_pos (by omega) (by omega)
      · exact Int.mul_pos_of_neg_of_neg (by omega) (by omega)
    refine decide_eq_decide.2 ?_
    rw [QV_le_iff g4 g2 hpos ?_ ?_, hcross]
    · omega
    · have := Nat.mul_le_mul (show (u2 - l2).natAbs ≤ 2 ^ 23 by omega) (show (p1 - l1).natAbs ≤ 2 ^ 23 by omega)
      omega
    · have := Nat.mul_le_mul (show (p2 - l2).natAbs ≤ 2 ^ 23 by omega) (show (u1 - l1).natAbs ≤ 2 ^ 23 by omega)
      omega
  · obtain ⟨hf, k, hk, hv⟩ := hq
    subst heq
    obtain ⟨n, n1, n2, n3, n4⟩ := sub_near hf hv hk h2
    have hn : floatBits .sub .f64 q ly = some n := n1
    have s1 : fok .sub .f64 q ly := by unfold fok; rw [hn]; rfl
    have e1 : fop .sub .f64 q ly = n := by unfold fop; rw [hn]; rfl
    refine ⟨s1, s2, s3, s4, fun r w hr hw => ?_⟩
    rw [e1] at hr
    obtain ⟨r', m1, m2, m3, m4, m5⟩ := div_little n2 n3 n4 (by omega) d2 hd1
    have hrr : r = r' := by
      have : floatBits .quo .f64 n (fop .sub .f64 px lx) = some r' := m1
      unfold QuoRel at hr
      rw [this] at hr
      exact hr
    subst hrr
    obtain ⟨g3, g4⟩ := quo_fin hw d3 d4 hd2 (by omega) (by omega)
    obtain ⟨q1, q2⟩ := QV_large g4 hnum (show (u1 - l1).natAbs ≤ 2 ^ 24 by omega)
    have hs : 2 ^ (k + 1 + 1) < 2 ^ (U1 - 25) := small_lt (by omega)
    rw [fge_V m2 g3]
    refine decide_eq_decide.2 ?_
    have hn0 : decide (u2 - p2 < 0) = false := decide_eq_false (by omega)
    rw [hn0, Bool.false_xor] at q2
    rw [hcross, Int.sub_self, Int.zero_mul]
    generalize 2 ^ (k + 1 + 1) = t at *
    generalize 2 ^ (U1 - 25) = u at *
    rcases hx with hx | hx
    · have hneg : ¬ V w < 0 := by rw [q2]; simp; omega
      have := m3 (by omega)
      have hm : 0 < (u2 - p2) * (p1 - l1) := Int.mul_pos (by omega) (by omega)
      omega
    · have hneg : V w < 0 := by rw [q2]; simp; omega
      have := m4 (by omega)
      have hm : (u2 - p2) * (p1 - l1) < 0 := Int.mul_neg_of_pos_of_neg (by omega) (by omega)
      omega

end Go.Fl
