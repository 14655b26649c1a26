/- Quotients as the walk has them: finite, infinite, none. -/
import Derived.Test.YtcjhgngdhdcpeaaFl6
import Derived.Test.YtcjhgngdhdcpeaaSx14
namespace Go.Fl
open Ieee Go.Sx

theorem quo_fin {x y r : Nat} {a b : Int} (h : QuoRel .f64 x y r) (hx : FI x a) (hy : FI y b) (hb : b ≠ 0) (hb2 : b.natAbs < 2 ^ 53) (ha2 : a.natAbs < 2 ^ 53) : Fin r ∧ QV (V r) a b := by
  obtain ⟨q, h1, h2, h3⟩ := div_QV hx hy hb hb2 ha2
  have : floatBits .quo .f64 x y = some q := h1
  unfold QuoRel at h
  rw [this] at h
  subst h
  exact ⟨h2, h3⟩

theorem FI_zero_mag {y : Nat} (hy : FI y 0) : ∃ t j, double.read y = .number t 0 j := by
  obtain ⟨t, n, j, h4, h5, h6, hn⟩ := read_fin hy.1
  rw [hy.2, Int.zero_mul] at h6
  have := congrArg Int.natAbs h6
  rw [signed_natAbs] at this
  rcases Nat.mul_eq_zero.1 this with h | h
  · subst h; exact ⟨t, j, h4⟩
  · exact absurd h (Nat.ne_of_gt (Nat.two_pow_pos _))

theorem read_word_inf (s : Bool) : double.read (double.word s double.infRung) = .infinity s := by cases s <;> decide

theorem quo_inf {x y r : Nat} {a : Int} (h : QuoRel .f64 x y r) (hx : FI x a) (ha : a ≠ 0) (hy : FI y 0) {z : Nat} (hz : Fin z) : fEq .f64 r z = false ∧ fEq .f64 z r = false := by
  obtain ⟨s, m, i, h1, h2, h3, hm⟩ := read_fin hx.1
  obtain ⟨t, j, h4⟩ := FI_zero_mag hy
  have hm0 : m ≠ 0 := fun e => by
    subst e
    rw [hx.2] at h3
    have := congrArg Int.natAbs h3
    rw [signed_natAbs, Nat.zero_mul, Int.natAbs_mul, natAbs_pow2] at this
    rcases Nat.mul_eq_zero.1 this.symm with h | h
    · omega
    · exact absurd h (Nat.ne_of_gt (Nat.two_pow_pos _))
  have hd : floatBits .quo .f64 x y = some (double.word (s ^^ t) double.infRung) := by
    show double.div x y = _
    unfold Format.div
    rw [h1, h4]
    unfold Datum.quotient
    simp only [hm0, if_true, if_false]
    rfl
  unfold QuoRel at h
  rw [hd] at h
  subst h
  obtain ⟨u, l, k, h7, _⟩ := read_fin hz
  constructor
  · unfold fEq
    show (Datum.order (double.read _) (double.read z) == _) = _
    rw [read_word_inf, h7]
    show ((some (if (s ^^ t) then Ordering.lt else Ordering.gt) : Option Ordering) == some .eq) = false
    cases (s ^^ t) <;> rfl
  · unfold fEq
    show (Datum.order (double.read z) (double.read _) == _) = _
    rw [read_word_inf, h7]
    show ((some (if (s ^^ t) then Ordering.gt else Ordering.lt) : Option Ordering) == some .eq) = false
    cases (s ^^ t) <;> rfl

theorem nan_order {r z : Nat} (h : (double.read r).isNaN = true) : fEq .f64 r z = false ∧ fEq .f64 z r = false := by
  cases hr : double.read r with
  | nan s f =>
    constructor
    · unfold fEq
      show (Datum.order (double.read r) (double.read z) == _) = _
      rw [hr]; rfl
    · unfold fEq
      show (Datum.order (double.read z) (double.read r) == _) = _
      rw [hr]
      cases double.read z <;> rfl
  | number s m i => rw [hr] at h; cases h
  | infinity s => rw [hr] at h; cases h

theorem quo_nan {x y r : Nat} (h : QuoRel .f64 x y r) (hx : FI x 0) (hy : FI y 0) {z : Nat} : fEq .f64 r z = false ∧ fEq .f64 z r = false := by
  obtain ⟨s, i, h1⟩ := FI_zero_mag hx
  obtain ⟨t, j, h4⟩ := FI_zero_mag hy
  have hd : floatBits .quo .f64 x y = none := by
    show double.div x y = _
    unfold Format.div
    rw [h1, h4]; rfl
  unfold QuoRel at h
  rw [hd] at h
  exact nan_order h

/-- Two quotients are the same just if the fractions are. -/
theorem QV_iff {v w a b c d : Int} (h1 : QV v a b) (h2 : QV w c d) (hb : b ≠ 0) (hd : d ≠ 0) (hs1 : a.natAbs * d.natAbs ≤ 2 ^ 50) (hs2 : c.natAbs * b.natAbs ≤ 2 ^ 50) : v = w ↔ a * d = c * b := by
  constructor
  · intro hvw
    rcases Int.lt_trichotomy (a * b * (d * d)) (c * d * (b * b)) with h | h | h
    · have := QV_lt h1 h2 hb hd hs1 hs2 h; omega
    · have e1 : a * b * (d * d) = (b * d) * (a * d) := by ac_rfl
      have e2 : c * d * (b * b) = (b * d) * (c * b) := by ac_rfl
      rw [e1, e2] at h
      exact Int.eq_of_mul_eq_mul_left (Int.mul_ne_zero hb hd) h
    · have := QV_lt h2 h1 hd hb hs2 hs1 h; omega
  · exact QV_eq h1 h2 hb hd

/-- Where both divisors have the same sign, the quotients stand to each other as the fractions. -/
theorem QV_le_iff {v w a b c d : Int} (h1 : QV v a b) (h2 : QV w c d) (hbd : 0 < b * d) (hs1 : a.natAbs * d.natAbs ≤ 2 ^ 50) (hs2 : c.natAbs * b.natAbs ≤ 2 ^ 50) : v ≤ w ↔ a * d ≤ c * b := by
  have hb : b ≠ 0 := fun e => by rw [e, Int.zero_mul] at hbd; omega
  have hd : d ≠ 0 := fun e => by rw [e, Int.mul_zero] at hbd; omega
  have e1 : a * b * (d * d) = (b * d) * (a * d) := by ac_rfl
  have e2 : c * d * (b * b) = (b * d) * (c * b) := by ac_rfl
  rcases Int.lt_trichotomy (a * d) (c * b) with h | h | h
  · have h3 := Int.mul_lt_mul_of_pos_left h hbd
    rw [← e1, ← e2] at h3
    have := QV_lt h1 h2 hb hd hs1 hs2 h3
    omega
  · have := QV_eq h1 h2 hb hd h; omega
  · have h3 := Int.mul_lt_mul_of_pos_left h hbd
    rw [← e1, ← e2] at h3
    have := QV_lt h2 h1 hd hb hs2 hs1 h3
    omega

/-- The difference of two whole numbers as the walk asks for it. -/
theorem sub_I {x y : Nat} {a b : Int} (hx : FI x a) (hy : FI y b) (ha : a.natAbs ≤ 2 ^ 22) (hb : b.natAbs ≤ 2 ^ 22) : fok .sub .f64 x y ∧ FI (fop .sub .f64 x y) (a - b) := by
  obtain ⟨r, h1, h2⟩ := FI_sub hx hy (by omega)
  have : floatBits .sub .f64 x y = some r := h1
  unfold fok fop
  rw [this]
  exact ⟨rfl, h2⟩


/-- A little above a whole number: how that stands to whole numbers. -/
theorem near_cmp {n m : Int} {k : Nat} (hk : k ≤ 1045) : (n * 2 ^ U1 + ((2 ^ k : Nat) : Int) < m * 2 ^ U1 ↔ n < m) ∧ (m * 2 ^ U1 < n * 2 ^ U1 + ((2 ^ k : Nat) : Int) ↔ m ≤ n) ∧ n * 2 ^ U1 + ((2 ^ k : Nat) : Int) ≠ m * 2 ^ U1 := by
  have hU : U1 = 1074 := rfl
  have h1 : 2 ^ k < 2 ^ U1 := (Nat.pow_lt_pow_iff_right (by decide)).2 (by omega)
  have h2 : 0 < 2 ^ k := Nat.two_pow_pos k
  have e : (2 : Int) ^ U1 = ((2 ^ U1 : Nat) : Int) := by simp
  rw [e]
  generalize 2 ^ U1 = u at *
  generalize 2 ^ k = t at *
  have hu : (0 : Int) < (u : Int) := by omega
  rcases Int.lt_trichotomy n m with h | h | h
  · have h3 : (n + 1) * (u : Int) ≤ m * u := Int.mul_le_mul_of_nonneg_right (by omega) (by omega)
    rw [Int.add_mul, Int.one_mul] at h3
    omega
  · subst h; omega
  · have h3 : (m + 1) * (u : Int) ≤ n * u := Int.mul_le_mul_of_nonneg_right (by omega) (by omega)
    rw [Int.add_mul, Int.one_mul] at h3
    omega

/-- Near n, a little above. -/
def Near (q : Nat) (n : Int) : Prop := Fin q ∧ ∃ k, k ≤ 1045 ∧ V q = n * 2 ^ U1 + ((2 ^ k : Nat) : Int)

theorem near_eq {q y : Nat} {n m : Int} (hq : Near q n) (hy : FI y m) : fEq .f64 q y = false := by
  obtain ⟨h1, k, hk, h2⟩ := hq
  rw [feq_V h1 hy.1, h2, hy.2]
  exact decide_eq_false (near_cmp hk).2.2
theorem near_lt {q y : Nat} {n m : Int} (hq : Near q n) (hy : FI y m) : fLt .f64 q y = decide (n < m) := by
  obtain ⟨h1, k, hk, h2⟩ := hq
  rw [flt_V h1 hy.1, h2, hy.2]
  exact decide_eq_decide.2 (near_cmp hk).1
theorem near_gt {q y : Nat} {n m : Int} (hq : Near q n) (hy : FI y m) : fGt .f64 q y = decide (m ≤ n) := by
  obtain ⟨h1, k, hk, h2⟩ := hq
  rw [fgt_V h1 hy.1, h2, hy.2]
  exact decide_eq_decide.2 (near_cmp hk).2.1
theorem near_nxt {x : Nat} {n : Int} (h : FI x n) (hn : n.natAbs ≤ 2 ^ 22) : Near (nxt x) n := ⟨(nxt_spec h hn).2.1, (nxt_spec h hn).2.2⟩

end Go.Fl
