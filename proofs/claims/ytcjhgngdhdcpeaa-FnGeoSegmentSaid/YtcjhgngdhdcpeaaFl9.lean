/- Whole numbers out of floats; halves; products in general; rounding in general. -/
import Derived.Test.YtcjhgngdhdcpeaaFl7
namespace Go.Fl
open Go.Sx Ieee

theorem zero_cut (neg : Bool) (n drop : Nat) : Toward.zero.cut neg n drop = n / 2 ^ drop := by
  unfold Toward.cut
  simp only [Nat.shiftLeft_eq, Nat.one_mul, Bool.toNat_false, Nat.add_zero]
  by_cases hd : drop ≤ n.log2 + 2
  · rw [Nat.min_eq_left hd]
  · rw [Nat.min_eq_right (by omega)]
    have h1 : n < 2 ^ (n.log2 + 1) := Nat.lt_log2_self
    have h2 : 2 ^ (n.log2 + 1) ≤ 2 ^ (n.log2 + 2) := Nat.pow_le_pow_right (by decide) (by omega)
    have h3 : 2 ^ (n.log2 + 2) ≤ 2 ^ drop := Nat.pow_le_pow_right (by decide) (by omega)
    rw [Nat.div_eq_of_lt (by omega), Nat.div_eq_of_lt (by omega)]

theorem signed_inj {s : Bool} {m u : Nat} {n : Int} (h : signed s m u = n * 2 ^ u) : signed s m 0 = n := by
  have e : signed s m u = signed s m 0 * 2 ^ u := by
    have := signed_add s m 0 u
    rw [Nat.zero_add] at this; exact this
  rw [e] at h
  exact Int.eq_of_mul_eq_mul_right (Int.ne_of_gt (pow_pos' u)) h

/-- 'int64(x)' of a whole number. -/
theorem toI_FI {x : Nat} {n : Int} (h : FI x n) (hn : n.natAbs < 2 ^ 63) : toIok .f64 x .i64 ∧ toI .f64 x .i64 = n := by
  have key : floatToIntVal .f64 x .i64 = some n := by
    obtain ⟨s, m, i, h1, h2, h3, _⟩ := read_fin h.1
    rw [h.2] at h3
    have hU : U1 = 1074 := rfl
    have hv : (Datum.number s m i).toInt .zero = some n := by
      unfold Datum.toInt Datum.integral
      simp only
      congr 1
      rw [zero_cut, Nat.shiftLeft_eq]
      by_cases hi : 0 ≤ i
      · have e1 : (-i).toNat = 0 := by omega
        rw [e1, Nat.pow_zero, Nat.div_one]
        apply signed_inj (u := U1)
        have e2 : (i + 1074).toNat = i.toNat + U1 := by rw [hU]; omega
        rw [e2] at h3
        rw [← h3, signed_mag, signed_mag, Nat.pow_add, Nat.mul_assoc]
      · have e1 : i.toNat = 0 := by omega
        rw [e1, Nat.pow_zero, Nat.mul_one]
        have hm : m = n.natAbs * 2 ^ (-i).toNat := by
          have := congrArg Int.natAbs h3
          rw [signed_mag] at this
          have e2 : U1 = (-i).toNat + (i + 1074).toNat := by rw [hU]; omega
          have h5 : m * 2 ^ (i + 1074).toNat = n.natAbs * 2 ^ U1 := by
            rw [Int.natAbs_mul] at this
            rw [natAbs_pow2] at this
            rw [← this]
            cases s
            · exact (Int.natAbs_natCast _).symm
            · exact ((Int.natAbs_neg _).trans (Int.natAbs_natCast _)).symm
          rw [e2, Nat.pow_add, ← Nat.mul_assoc] at h5
          exact Nat.eq_of_mul_eq_mul_right (Nat.two_pow_pos _) h5
        rw [hm, Nat.mul_div_cancel _ (Nat.two_pow_pos _)]
        rw [hm] at h3
        apply signed_inj (u := U1)
        rw [← h3, signed_mag, signed_mag]
        have e2 : U1 = (-i).toNat + (i + 1074).toNat := by rw [hU]; omega
        rw [e2, Nat.pow_add, ← Nat.mul_assoc]
    unfold floatToIntVal
    have hd : FloatKind.f64.decode x = .number s m i := h1
    rw [hd, hv]
    simp only
    rw [if_pos]
    have e1 : IntKind.i64.min = -9223372036854775808 := by decide
    have e2 : IntKind.i64.max = 9223372036854775807 := by decide
    rw [e1, e2]
    omega
  unfold toIok toI
  rw [key]
  exact ⟨rfl, rfl⟩

/-- A word that is not little has no digits far behind the point. -/
def U0 : Nat := 1000
theorem U0_lt : U0 + 1 ≤ U1 := by decide
theorem pow_double {a b : Nat} (h : a + 1 ≤ b) : 2 ^ a * 2 ≤ 2 ^ b := by rw [← Nat.pow_succ]; exact Nat.pow_le_pow_right (by decide) h

theorem place_lo' {m : Nat} {i : Int} (hi : -1074 ≤ i) (hm : m < 2 ^ 53) (h : 2 ^ U0 ≤ m * 2 ^ (i + 1074).toNat) : -128 < i := by
  rcases Int.lt_or_le (-128) i with h1 | h1
  · exact h1
  · exfalso
    obtain ⟨c, hc⟩ : ∃ c : Nat, c = 946 := ⟨_, rfl⟩
    have hd : U0 = 1000 := rfl
    have h2 : (i + 1074).toNat ≤ c := by omega
    have h3 : m * 2 ^ (i + 1074).toNat < 2 ^ 53 * 2 ^ c := by
      apply Nat.lt_of_lt_of_le (Nat.mul_lt_mul_of_pos_right hm (Nat.two_pow_pos _))
      exact Nat.mul_le_mul_left _ (Nat.pow_le_pow_right (by decide) h2)
    rw [← Nat.pow_add] at h3
    have h4 : 2 ^ (53 + c) ≤ 2 ^ U0 := Nat.pow_le_pow_right (by decide) (by omega)
    exact absurd (Nat.lt_of_lt_of_le h3 h4) (Nat.not_lt.2 h)

theorem sign_of {s : Bool} {m u : Nat} {v : Int} (h : signed s m u = v) (hv : v ≠ 0) : s = decide (v < 0) := by
  rw [signed_mag] at h
  cases s
  · simp only [Bool.false_eq_true, if_false] at h
    exact (decide_eq_false (by omega)).symm
  · simp only [if_true] at h
    exact (decide_eq_true (by omega)).symm

theorem mag_of {s : Bool} {m u : Nat} {v : Int} (h : signed s m u = v) : m * 2 ^ u = v.natAbs := by
  rw [← h, signed_mag]
  cases s
  · exact (Int.natAbs_natCast _).symm
  · exact ((Int.natAbs_neg _).trans (Int.natAbs_natCast _)).symm

/-- What is not little: 0, or not below 2 ^ -74. -/
def Big (v : Int) : Prop := v = 0 ∨ 2 ^ U0 ≤ v.natAbs

theorem big_FI {x : Nat} {n : Int} (h : FI x n) : Big (V x) := by
  unfold Big
  by_cases hn : n = 0
  · left; rw [h.2, hn, Int.zero_mul]
  · right
    rw [h.2, Int.natAbs_mul, natAbs_pow2]
    have h1 : 1 * 2 ^ U1 ≤ n.natAbs * 2 ^ U1 := Nat.mul_le_mul_right _ (by omega)
    rw [Nat.one_mul] at h1
    exact Nat.le_trans (Nat.pow_le_pow_right (by decide) (Nat.le_of_succ_le U0_lt)) h1

/-- A product: the nearest word of the exact one. -/
theorem mul_read {x y : Nat} (hx : Fin x) (hy : Fin y) (bx : Big (V x)) (by' : Big (V y)) (h0 : V x ≠ 0) (h1 : V y ≠ 0) :
    ∃ mag place, double.mul x y = some (double.nearest (decide (V x < 0) ^^ decide (V y < 0)) mag place) ∧ mag ≠ 0 ∧ -1074 ≤ place ∧ mag * 2 ^ (place + 1074).toNat * 2 ^ U1 = (V x).natAbs * (V y).natAbs := by
  obtain ⟨s, m, i, r1, r2, r3, r4⟩ := read_fin hx
  obtain ⟨t, n, j, q1, q2, q3, q4⟩ := read_fin hy
  have hm := mag_of r3
  have hn := mag_of q3
  have hi := place_lo' r2 r4 (by rw [hm]; rcases bx with h | h; exact absurd h h0; exact h)
  have hj := place_lo' q2 q4 (by rw [hn]; rcases by' with h | h; exact absurd h h1; exact h)
  have hm0 : m ≠ 0 := fun e => by rw [e, Nat.zero_mul] at hm; omega
  have hn0 : n ≠ 0 := fun e => by rw [e, Nat.zero_mul] at hn; omega
  refine ⟨m * n, i + j, ?_, Nat.mul_ne_zero hm0 hn0, by omega, ?_⟩
  · unfold Format.mul
    rw [r1, q1, ← sign_of r3 h0, ← sign_of q3 h1]; rfl
  · have hU : U1 = 1074 := rfl
    have e1 : (i + 1074).toNat + (j + 1074).toNat = (i + j + 1074).toNat + U1 := by rw [hU]; omega
    calc (m * n * 2 ^ (i + j + 1074).toNat) * 2 ^ U1 = m * n * 2 ^ ((i + j + 1074).toNat + U1) := by rw [Nat.pow_add, Nat.mul_assoc]
      _ = m * n * 2 ^ ((i + 1074).toNat + (j + 1074).toNat) := by rw [e1]
      _ = (m * 2 ^ (i + 1074).toNat) * (n * 2 ^ (j + 1074).toNat) := by rw [Nat.pow_add]; ac_rfl
      _ = _ := by rw [hm, hn]

theorem mul_zero' {x y : Nat} (hx : Fin x) (hy : Fin y) (h : V x = 0 ∨ V y = 0) : ∃ r, double.mul x y = some r ∧ FI r 0 := by
  obtain ⟨s, m, i, r1, r2, r3, r4⟩ := read_fin hx
  obtain ⟨t, n, j, q1, q2, q3, q4⟩ := read_fin hy
  have hm := mag_of r3
  have hn := mag_of q3
  refine ⟨double.nearest (s ^^ t) (m * n) (i + j), by unfold Format.mul; rw [r1, q1]; rfl, ?_⟩
  have : m * n = 0 := by
    rcases h with h | h
    · rw [h] at hm
      rcases Nat.mul_eq_zero.1 hm with h8 | h8
      · rw [h8, Nat.zero_mul]
      · exact absurd h8 (Nat.ne_of_gt (Nat.two_pow_pos _))
    · rw [h] at hn
      rcases Nat.mul_eq_zero.1 hn with h8 | h8
      · rw [h8, Nat.mul_zero]
      · exact absurd h8 (Nat.ne_of_gt (Nat.two_pow_pos _))
  unfold Format.nearest
  rw [if_pos this]
  exact word_zero _

/-- Half a whole number. -/
def FH (x : Nat) (n : Int) : Prop := Fin x ∧ V x * 2 = n * 2 ^ U1

theorem FH_two {x y : Nat} {n : Int} (hx : FH x n) (hy : FI y 2) (hn : n.natAbs < 2 ^ 53) : ∃ r, double.mul y x = some r ∧ FI r n := by
  have hp := pow_pos' U1
  by_cases h0 : n = 0
  · subst h0
    have : V x = 0 := by have := hx.2; rw [Int.zero_mul] at this; omega
    exact mul_zero' hy.1 hx.1 (.inr this)
  · have hv : V x ≠ 0 := fun e => by
      have := hx.2
      rw [e, Int.zero_mul] at this
      rcases Int.mul_eq_zero.1 this.symm with h | h
      · exact h0 h
      · omega
    have hy0 : V y ≠ 0 := by rw [hy.2]; generalize (2 : Int) ^ U1 = u at hp; omega
    have hab : (V x).natAbs * 2 = n.natAbs * 2 ^ U1 := by
      have := congrArg Int.natAbs hx.2
      rw [Int.natAbs_mul, Int.natAbs_mul, natAbs_pow2] at this
      exact this
    have bx : Big (V x) := by
      right
      have h1 : 1 * 2 ^ U1 ≤ n.natAbs * 2 ^ U1 := Nat.mul_le_mul_right _ (by omega)
      rw [← hab, Nat.one_mul] at h1
      have h2 := pow_double U0_lt
      generalize 2 ^ U0 = u0 at *
      generalize 2 ^ U1 = u1 at *
      omega
    obtain ⟨mag, place, h1, h2, h3, h4⟩ := mul_read hy.1 hx.1 (big_FI hy) bx hy0 hv
    refine ⟨_, h1, ?_⟩
    have hya : (V y).natAbs = 2 * 2 ^ U1 := by rw [hy.2, Int.natAbs_mul, natAbs_pow2, show (2 : Int).natAbs = 2 from rfl]
    have h5 : mag * 2 ^ (place + 1074).toNat = n.natAbs * 2 ^ U1 := by
      apply Nat.eq_of_mul_eq_mul_right (Nat.two_pow_pos U1)
      rw [h4, hya, ← hab, Nat.mul_right_comm, Nat.mul_comm 2]
    have h6 := nearest_int (decide (V y < 0) ^^ decide (V x < 0)) h3 (by omega) hn h5
    have hs : decide (V y < 0) = false := decide_eq_false (by rw [hy.2]; generalize (2 : Int) ^ U1 = u at hp; omega)
    rw [hs, Bool.false_xor] at h6
    have e : (if decide (V x < 0) = true then -((n.natAbs : Nat) : Int) else ((n.natAbs : Nat) : Int)) = n := by
      by_cases hneg : n < 0
      · have : V x < 0 := by
          have h7 := hx.2
          have := Int.mul_neg_of_neg_of_pos hneg hp
          omega
        simp only [this, decide_true, if_true]; omega
      · have : ¬ V x < 0 := by
          have h7 := hx.2
          have := Int.mul_nonneg (show 0 ≤ n by omega) (Int.le_of_lt hp)
          omega
        simp only [this, decide_false, Bool.false_eq_true, if_false]; omega
    rw [e] at h6
    rw [hs, Bool.false_xor]
    exact h6

theorem two_FI : FI 4611686018427387904 2 := by
  have h := FI_ofInt (n := 2) (by decide)
  have e : FloatKind.f64.nearest 2 = 4611686018427387904 := by decide
  rw [e] at h; exact h
theorem one_FI : FI 4607182418800017408 1 := by
  have h := FI_ofInt (n := 1) (by decide)
  have e : FloatKind.f64.nearest 1 = 4607182418800017408 := by decide
  rw [e] at h; exact h

/-- Half of a whole number, by division. -/
theorem half_div {x y r : Nat} {a : Int} (h : QuoRel .f64 x y r) (hx : FI x a) (hy : FI y 2) (ha : a.natAbs ≤ 2 ^ 30) : FH r a := by
  obtain ⟨h1, h2⟩ := quo_fin h hx hy (by decide) (by decide) (by omega)
  refine ⟨h1, ?_⟩
  rcases h2 with ⟨h2, h3⟩ | ⟨h2, k, E, h3, h4⟩
  · rw [h3, h2]; simp
  · have hE : E ≤ 1073 - 10 := by
      have hbl := h3.bl
      rcases Nat.lt_or_ge 1063 E with hc | hc
      · exfalso
        have e1 : 2 ^ 52 * (2 ^ E * (2 : Int).natAbs) = 2 ^ (53 + E) := by
          rw [show (2 : Int).natAbs = 2 ^ 1 from rfl, ← Nat.pow_add, ← Nat.pow_add]; congr 1; omega
        rw [e1] at hbl
        have e2 : a.natAbs * 2 ^ U1 ≤ 2 ^ (30 + U1) := by rw [Nat.pow_add]; exact Nat.mul_le_mul_right _ ha
        have h5 : 2 ^ (53 + E) ≤ 2 ^ (30 + U1) := Nat.le_trans hbl e2
        have h6 := (Nat.pow_le_pow_iff_right (by decide : 1 < 2)).1 h5
        have : U1 = 1074 := rfl
        omega
      · exact hc
    have hdv : U1 = E + 1 + (U1 - E - 1) := by have : U1 = 1074 := rfl; omega
    have hk : k * 2 ^ E * 2 = a.natAbs * 2 ^ U1 := by
      have hup := h3.up
      have hdn := h3.dn
      rw [show (2 : Int).natAbs = 2 from rfl] at hup hdn
      have e3 : a.natAbs * 2 ^ U1 = (a.natAbs * 2 ^ (U1 - E - 1)) * (2 ^ E * 2) := by
        conv => lhs; rw [hdv, Nat.pow_add, Nat.pow_succ]
        ac_rfl
      rw [e3] at hup hdn
      have e4 : k * 2 ^ E * 2 = k * (2 ^ E * 2) := by ac_rfl
      rw [e3, e4]
      have hg : 0 < 2 ^ E * 2 := Nat.mul_pos (Nat.two_pow_pos _) (by decide)
      generalize 2 ^ E * 2 = g at *
      generalize a.natAbs * 2 ^ (U1 - E - 1) = c at *
      have hkc : k = c := by
        rcases Nat.lt_trichotomy k c with hlt | heq | hgt
        · exfalso
          have : k * g + g ≤ c * g := by
            calc k * g + g = (k + 1) * g := by rw [Nat.add_mul, Nat.one_mul]
              _ ≤ c * g := Nat.mul_le_mul_right _ hlt
          have e5 : 2 * k * g = 2 * (k * g) := by rw [Nat.mul_assoc]
          omega
        · exact heq
        · exfalso
          have : c * g + g ≤ k * g := by
            calc c * g + g = (c + 1) * g := by rw [Nat.add_mul, Nat.one_mul]
              _ ≤ k * g := Nat.mul_le_mul_right _ hgt
          have e5 : 2 * k * g = 2 * (k * g) := by rw [Nat.mul_assoc]
          omega
      rw [hkc]
    have hd2 : decide ((2 : Int) < 0) = false := rfl
    rw [hd2, Bool.xor_false] at h4
    rw [h4]
    have hk' : ((k * 2 ^ E : Nat) : Int) * 2 = (a.natAbs : Int) * 2 ^ U1 := by
      have := congrArg (Nat.cast : Nat → Int) hk
      rw [Int.natCast_mul, Int.natCast_mul _ (2 ^ U1), Int.natCast_pow] at this
      exact this
    by_cases hneg : a < 0
    · rw [decide_eq_true hneg]
      simp only [if_true]
      rw [Int.neg_mul, hk']
      have : (a.natAbs : Int) = -a := by omega
      rw [this, Int.neg_mul, Int.neg_neg]
    · rw [decide_eq_false hneg]
      simp only [Bool.false_eq_true, if_false]
      rw [hk']
      have : (a.natAbs : Int) = a := by omega
      rw [this]

end Go.Fl
