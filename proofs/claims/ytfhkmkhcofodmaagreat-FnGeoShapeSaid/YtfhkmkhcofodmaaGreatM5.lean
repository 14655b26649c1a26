/- Parts of a proof, in order: what each says stands at its head. No conditions. -/
import Derived.KernelRfl
import Derived.Test.YtfhkmkhcofodmaaGreatM4
/- Whole numbers out of floats; halves; products in general; rounding in general. -/
namespace Go.Fl
open Go.Sx Ieee

theorem zero_cut (neg : Bool) (n drop : Nat) : Toward.zero.cut neg n drop = n / 2 ^ drop := by
  unfold Toward.cut
  simp only [Nat.shiftLeft_eq, Nat.one_mul, Bool.toNat_false, Nat.add_zero]
  by_cases hd : drop ≤ n.log2 + 2
  · rw [Nat.min_eq_left hd]
  · rw [Nat.min_eq_right (by omega)]
    have h1 : n < 2 ^ (n.log2 + 1) := Nat.lt_log2_self
    have h2 : 2 ^ (n.log2 + 1) ≤ 2 ^ (n.log2 + 2) := Nat.pow_le_pow_right (by decide) (by omega)
    have h3 : 2 ^ (n.log2 + 2) ≤ 2 ^ drop := Nat.pow_le_pow_right (by decide) (by omega)
    rw [Nat.div_eq_of_lt (by omega), Nat.div_eq_of_lt (by omega)]

theorem signed_inj {s : Bool} {m u : Nat} {n : Int} (h : signed s m u = n * 2 ^ u) : signed s m 0 = n := by
  have e : signed s m u = signed s m 0 * 2 ^ u := by
    have := signed_add s m 0 u
    rw [Nat.zero_add] at this; exact this
  rw [e] at h
  exact Int.eq_of_mul_eq_mul_right (Int.ne_of_gt (pow_pos' u)) h

/-- 'int64(x)' of a whole number. -/
theorem toI_FI {x : Nat} {n : Int} (h : FI x n) (hn : n.natAbs < 2 ^ 63) : toIok .f64 x .i64 ∧ toI .f64 x .i64 = n := by
  have key : floatToIntVal .f64 x .i64 = some n := by
    obtain ⟨s, m, i, h1, h2, h3, _⟩ := read_fin h.1
    rw [h.2] at h3
    have hU : U1 = 1074 := rfl
    have hv : (Datum.number s m i).toInt .zero = some n := by
      unfold Datum.toInt Datum.integral
      simp only
      congr 1
      rw [zero_cut, Nat.shiftLeft_eq]
      by_cases hi : 0 ≤ i
      · have e1 : (-i).toNat = 0 := by omega
        rw [e1, Nat.pow_zero, Nat.div_one]
        apply signed_inj (u := U1)
        have e2 : (i + 1074).toNat = i.toNat + U1 := by rw [hU]; omega
        rw [e2] at h3
        rw [← h3, signed_mag, signed_mag, Nat.pow_add, Nat.mul_assoc]
      · have e1 : i.toNat = 0 := by omega
        rw [e1, Nat.pow_zero, Nat.mul_one]
        have hm : m = n.natAbs * 2 ^ (-i).toNat := by
          have := congrArg Int.natAbs h3
          rw [signed_mag] at this
          have e2 : U1 = (-i).toNat + (i + 1074).toNat := by rw [hU]; omega
          have h5 : m * 2 ^ (i + 1074).toNat = n.natAbs * 2 ^ U1 := by
            rw [Int.natAbs_mul] at this
            rw [natAbs_pow2] at this
            rw [← this]
            cases s
            · exact (Int.natAbs_natCast _).symm
            · exact ((Int.natAbs_neg _).trans (Int.natAbs_natCast _)).symm
          rw [e2, Nat.pow_add, ← Nat.mul_assoc] at h5
          exact Nat.eq_of_mul_eq_mul_right (Nat.two_pow_pos _) h5
        rw [hm, Nat.mul_div_cancel _ (Nat.two_pow_pos _)]
        rw [hm] at h3
        apply signed_inj (u := U1)
        rw [← h3, signed_mag, signed_mag]
        have e2 : U1 = (-i).toNat + (i + 1074).toNat := by rw [hU]; omega
        rw [e2, Nat.pow_add, ← Nat.mul_assoc]
    unfold floatToIntVal
    have hd : FloatKind.f64.decode x = .number s m i := h1
    rw [hd, hv]
    simp only
    rw [if_pos]
    have e1 : IntKind.i64.min = -9223372036854775808 := by decide
    have e2 : IntKind.i64.max = 9223372036854775807 := by decide
    rw [e1, e2]
    omega
  unfold toIok toI
  rw [key]
  exact ⟨rfl, rfl⟩

/-- A word that is not little has no digits far behind the point. -/
def U0 : Nat := 1000
theorem U0_lt : U0 + 1 ≤ U1 := by decide
theorem pow_double {a b : Nat} (h : a + 1 ≤ b) : 2 ^ a * 2 ≤ 2 ^ b := by rw [← Nat.pow_succ]; exact Nat.pow_le_pow_right (by decide) h

theorem place_lo' {m : Nat} {i : Int} (hi : -1074 ≤ i) (hm : m < 2 ^ 53) (h : 2 ^ U0 ≤ m * 2 ^ (i + 1074).toNat) : -128 < i := by
  rcases Int.lt_or_le (-128) i with h1 | h1
  · exact h1
  · exfalso
    obtain ⟨c, hc⟩ : ∃ c : Nat, c = 946 := ⟨_, rfl⟩
    have hd : U0 = 1000 := rfl
    have h2 : (i + 1074).toNat ≤ c := by omega
    have h3 : m * 2 ^ (i + 1074).toNat < 2 ^ 53 * 2 ^ c := by
      apply Nat.lt_of_lt_of_le (Nat.mul_lt_mul_of_pos_right hm (Nat.two_pow_pos _))
      exact Nat.mul_le_mul_left _ (Nat.pow_le_pow_right (by decide) h2)
    rw [← Nat.pow_add] at h3
    have h4 : 2 ^ (53 + c) ≤ 2 ^ U0 := Nat.pow_le_pow_right (by decide) (by omega)
    exact absurd (Nat.lt_of_lt_of_le h3 h4) (Nat.not_lt.2 h)

theorem sign_of {s : Bool} {m u : Nat} {v : Int} (h : signed s m u = v) (hv : v ≠ 0) : s = decide (v < 0) := by
  rw [signed_mag] at h
  cases s
  · simp only [Bool.false_eq_true, if_false] at h
    exact (decide_eq_false (by omega)).symm
  · simp only [if_true] at h
    exact (decide_eq_true (by omega)).symm

theorem mag_of {s : Bool} {m u : Nat} {v : Int} (h : signed s m u = v) : m * 2 ^ u = v.natAbs := by
  rw [← h, signed_mag]
  cases s
  · exact (Int.natAbs_natCast _).symm
  · exact ((Int.natAbs_neg _).trans (Int.natAbs_natCast _)).symm

/-- What is not little: 0, or not below 2 ^ -74. -/
def Big (v : Int) : Prop := v = 0 ∨ 2 ^ U0 ≤ v.natAbs

theorem big_FI {x : Nat} {n : Int} (h : FI x n) : Big (V x) := by
  unfold Big
  by_cases hn : n = 0
  · left; rw [h.2, hn, Int.zero_mul]
  · right
    rw [h.2, Int.natAbs_mul, natAbs_pow2]
    have h1 : 1 * 2 ^ U1 ≤ n.natAbs * 2 ^ U1 := Nat.mul_le_mul_right _ (by omega)
    rw [Nat.one_mul] at h1
    exact Nat.le_trans (Nat.pow_le_pow_right (by decide) (Nat.le_of_succ_le U0_lt)) h1

/-- A product: the nearest word of the exact one. -/
theorem mul_read {x y : Nat} (hx : Fin x) (hy : Fin y) (bx : Big (V x)) (by' : Big (V y)) (h0 : V x ≠ 0) (h1 : V y ≠ 0) :
    ∃ mag place, double.mul x y = some (double.nearest (decide (V x < 0) ^^ decide (V y < 0)) mag place) ∧ mag ≠ 0 ∧ -1074 ≤ place ∧ mag * 2 ^ (place + 1074).toNat * 2 ^ U1 = (V x).natAbs * (V y).natAbs := by
  obtain ⟨s, m, i, r1, r2, r3, r4⟩ := read_fin hx
  obtain ⟨t, n, j, q1, q2, q3, q4⟩ := read_fin hy
  have hm := mag_of r3
  have hn := mag_of q3
  have hi := place_lo' r2 r4 (by rw [hm]; rcases bx with h | h; exact absurd h h0; exact h)
  have hj := place_lo' q2 q4 (by rw [hn]; rcases by' with h | h; exact absurd h h1; exact h)
  have hm0 : m ≠ 0 := fun e => by rw [e, Nat.zero_mul] at hm; omega
  have hn0 : n ≠ 0 := fun e => by rw [e, Nat.zero_mul] at hn; omega
  refine ⟨m * n, i + j, ?_, Nat.mul_ne_zero hm0 hn0, by omega, ?_⟩
  · unfold Format.mul
    rw [r1, q1, ← sign_of r3 h0, ← sign_of q3 h1]; rfl
  · have hU : U1 = 1074 := rfl
    have e1 : (i + 1074).toNat + (j + 1074).toNat = (i + j + 1074).toNat + U1 := by rw [hU]; omega
    calc (m * n * 2 ^ (i + j + 1074).toNat) * 2 ^ U1 = m * n * 2 ^ ((i + j + 1074).toNat + U1) := by rw [Nat.pow_add, Nat.mul_assoc]
      _ = m * n * 2 ^ ((i + 1074).toNat + (j + 1074).toNat) := by rw [e1]
      _ = (m * 2 ^ (i + 1074).toNat) * (n * 2 ^ (j + 1074).toNat) := by rw [Nat.pow_add]; ac_rfl
      _ = _ := by rw [hm, hn]

theorem mul_zero' {x y : Nat} (hx : Fin x) (hy : Fin y) (h : V x = 0 ∨ V y = 0) : ∃ r, double.mul x y = some r ∧ FI r 0 := by
  obtain ⟨s, m, i, r1, r2, r3, r4⟩ := read_fin hx
  obtain ⟨t, n, j, q1, q2, q3, q4⟩ := read_fin hy
  have hm := mag_of r3
  have hn := mag_of q3
  refine ⟨double.nearest (s ^^ t) (m * n) (i + j), by unfold Format.mul; rw [r1, q1]; rfl, ?_⟩
  have : m * n = 0 := by
    rcases h with h | h
    · rw [h] at hm
      rcases Nat.mul_eq_zero.1 hm with h8 | h8
      · rw [h8, Nat.zero_mul]
      · exact absurd h8 (Nat.ne_of_gt (Nat.two_pow_pos _))
    · rw [h] at hn
      rcases Nat.mul_eq_zero.1 hn with h8 | h8
      · rw [h8, Nat.mul_zero]
      · exact absurd h8 (Nat.ne_of_gt (Nat.two_pow_pos _))
  unfold Format.nearest
  rw [if_pos this]
  exact word_zero _

/-- Half a whole number. -/
def FH (x : Nat) (n : Int) : Prop := Fin x ∧ V x * 2 = n * 2 ^ U1

theorem FH_two {x y : Nat} {n : Int} (hx : FH x n) (hy : FI y 2) (hn : n.natAbs < 2 ^ 53) : ∃ r, double.mul y x = some r ∧ FI r n := by
  have hp := pow_pos' U1
  by_cases h0 : n = 0
  · subst h0
    have : V x = 0 := by have := hx.2; rw [Int.zero_mul] at this; omega
    exact mul_zero' hy.1 hx.1 (.inr this)
  · have hv : V x ≠ 0 := fun e => by
      have := hx.2
      rw [e, Int.zero_mul] at this
      rcases Int.mul_eq_zero.1 this.symm with h | h
      · exact h0 h
      · omega
    have hy0 : V y ≠ 0 := by rw [hy.2]; generalize (2 : Int) ^ U1 = u at hp; omega
    have hab : (V x).natAbs * 2 = n.natAbs * 2 ^ U1 := by
      have := congrArg Int.natAbs hx.2
      rw [Int.natAbs_mul, Int.natAbs_mul, natAbs_pow2] at this
      exact this
    have bx : Big (V x) := by
      right
      have h1 : 1 * 2 ^ U1 ≤ n.natAbs * 2 ^ U1 := Nat.mul_le_mul_right _ (by omega)
      rw [← hab, Nat.one_mul] at h1
      have h2 := pow_double U0_lt
      generalize 2 ^ U0 = u0 at *
      generalize 2 ^ U1 = u1 at *
      omega
    obtain ⟨mag, place, h1, h2, h3, h4⟩ := mul_read hy.1 hx.1 (big_FI hy) bx hy0 hv
    refine ⟨_, h1, ?_⟩
    have hya : (V y).natAbs = 2 * 2 ^ U1 := by rw [hy.2, Int.natAbs_mul, natAbs_pow2, show (2 : Int).natAbs = 2 from rfl]
    have h5 : mag * 2 ^ (place + 1074).toNat = n.natAbs * 2 ^ U1 := by
      apply Nat.eq_of_mul_eq_mul_right (Nat.two_pow_pos U1)
      rw [h4, hya, ← hab, Nat.mul_right_comm, Nat.mul_comm 2]
    have h6 := nearest_int (decide (V y < 0) ^^ decide (V x < 0)) h3 (by omega) hn h5
    have hs : decide (V y < 0) = false := decide_eq_false (by rw [hy.2]; generalize (2 : Int) ^ U1 = u at hp; omega)
    rw [hs, Bool.false_xor] at h6
    have e : (if decide (V x < 0) = true then -((n.natAbs : Nat) : Int) else ((n.natAbs : Nat) : Int)) = n := by
      by_cases hneg : n < 0
      · have : V x < 0 := by
          have h7 := hx.2
          have := Int.mul_neg_of_neg_of_pos hneg hp
          omega
        simp only [this, decide_true, if_true]; omega
      · have : ¬ V x < 0 := by
          have h7 := hx.2
          have := Int.mul_nonneg (show 0 ≤ n by omega) (Int.le_of_lt hp)
          omega
        simp only [this, decide_false, Bool.false_eq_true, if_false]; omega
    rw [e] at h6
    rw [hs, Bool.false_xor]
    exact h6

theorem two_FI : FI 4611686018427387904 2 := by
  have h := FI_ofInt (n := 2) (by decide)
  have e : FloatKind.f64.nearest 2 = 4611686018427387904 := by decide
  rw [e] at h; exact h
theorem one_FI : FI 4607182418800017408 1 := by
  have h := FI_ofInt (n := 1) (by decide)
  have e : FloatKind.f64.nearest 1 = 4607182418800017408 := by decide
  rw [e] at h; exact h

/-- Half of a whole number, by division. -/
theorem half_div {x y r : Nat} {a : Int} (h : QuoRel .f64 x y r) (hx : FI x a) (hy : FI y 2) (ha : a.natAbs ≤ 2 ^ 30) : FH r a := by
  obtain ⟨h1, h2⟩ := quo_fin h hx hy (by decide) (by decide) (by omega)
  refine ⟨h1, ?_⟩
  rcases h2 with ⟨h2, h3⟩ | ⟨h2, k, E, h3, h4⟩
  · rw [h3, h2]; simp
  · have hE : E ≤ 1073 - 10 := by
      have hbl := h3.bl
      rcases Nat.lt_or_ge 1063 E with hc | hc
      · exfalso
        have e1 : 2 ^ 52 * (2 ^ E * (2 : Int).natAbs) = 2 ^ (53 + E) := by
          rw [show (2 : Int).natAbs = 2 ^ 1 from rfl, ← Nat.pow_add, ← Nat.pow_add]; congr 1; omega
        rw [e1] at hbl
        have e2 : a.natAbs * 2 ^ U1 ≤ 2 ^ (30 + U1) := by rw [Nat.pow_add]; exact Nat.mul_le_mul_right _ ha
        have h5 : 2 ^ (53 + E) ≤ 2 ^ (30 + U1) := Nat.le_trans hbl e2
        have h6 := (Nat.pow_le_pow_iff_right (by decide : 1 < 2)).1 h5
        have : U1 = 1074 := rfl
        omega
      · exact hc
    have hdv : U1 = E + 1 + (U1 - E - 1) := by have : U1 = 1074 := rfl; omega
    have hk : k * 2 ^ E * 2 = a.natAbs * 2 ^ U1 := by
      have hup := h3.up
      have hdn := h3.dn
      rw [show (2 : Int).natAbs = 2 from rfl] at hup hdn
      have e3 : a.natAbs * 2 ^ U1 = (a.natAbs * 2 ^ (U1 - E - 1)) * (2 ^ E * 2) := by
        conv => lhs; rw [hdv, Nat.pow_add, Nat.pow_succ]
        ac_rfl
      rw [e3] at hup hdn
      have e4 : k * 2 ^ E * 2 = k * (2 ^ E * 2) := by ac_rfl
      rw [e3, e4]
      have hg : 0 < 2 ^ E * 2 := Nat.mul_pos (Nat.two_pow_pos _) (by decide)
      generalize 2 ^ E * 2 = g at *
      generalize a.natAbs * 2 ^ (U1 - E - 1) = c at *
      have hkc : k = c := by
        rcases Nat.lt_trichotomy k c with hlt | heq | hgt
        · exfalso
          have : k * g + g ≤ c * g := by
            calc k * g + g = (k + 1) * g := by rw [Nat.add_mul, Nat.one_mul]
              _ ≤ c * g := Nat.mul_le_mul_right _ hlt
          have e5 : 2 * k * g = 2 * (k * g) := by rw [Nat.mul_assoc]
          omega
        · exact heq
        · exfalso
          have : c * g + g ≤ k * g := by
            calc c * g + g = (c + 1) * g := by rw [Nat.add_mul, Nat.one_mul]
              _ ≤ k * g := Nat.mul_le_mul_right _ hgt
          have e5 : 2 * k * g = 2 * (k * g) := by rw [Nat.mul_assoc]
          omega
      rw [hkc]
    have hd2 : decide ((2 : Int) < 0) = false := rfl
    rw [hd2, Bool.xor_false] at h4
    rw [h4]
    have hk' : ((k * 2 ^ E : Nat) : Int) * 2 = (a.natAbs : Int) * 2 ^ U1 := by
      have := congrArg (Nat.cast : Nat → Int) hk
      rw [Int.natCast_mul, Int.natCast_mul _ (2 ^ U1), Int.natCast_pow] at this
      exact this
    by_cases hneg : a < 0
    · rw [decide_eq_true hneg]
      simp only [if_true]
      rw [Int.neg_mul, hk']
      have : (a.natAbs : Int) = -a := by omega
      rw [this, Int.neg_mul, Int.neg_neg]
    · rw [decide_eq_false hneg]
      simp only [Bool.false_eq_true, if_false]
      rw [hk']
      have : (a.natAbs : Int) = a := by omega
      rw [this]

end Go.Fl

/- Rectangles: the small functions. -/
namespace Go.Proofs.Tryz.Sx
open Go Go.Sx Go.Proofs Go.Fl Go.Geo
set_option maxRecDepth 100000

/-! ### of whole numbers -/
def geoRectF : PF := fun
  | [.agg [.int .i64 a, .int .i64 b, .int .i64 c, .int .i64 d]] => some (.agg [.int .i64 a, .int .i64 b, .int .i64 c, .int .i64 d], none)
  | _ => none
theorem vc_geoRect (R : SV → Prop) (a b c d : Int) : runA G0 0 [] [] (codeOf Tryz.f17) (init Tryz.f17.ntmps [.agg [.int .i64 a, .int .i64 b, .int .i64 c, .int .i64 d]] [] 0) (endK G0.E.T Tryz.f17.results.toList fun _ v => R v) = (
(((0 : Int) ≤ (0 : Int) ∧ (0 : Int) < (2 : Int)) ∧ True) ∧ (((0 : Int) ≤ (1 : Int) ∧ (1 : Int) < (2 : Int)) ∧ True) ∧ R (SV.agg [SV.int .i64 a, SV.int .i64 b, SV.int .i64 c, SV.int .i64 d])) := by kernel_rfl
theorem geoRect : PureOk Tryz.prog 17 geoRectF := by
  refine pure_of_vc g0 Tryz.func17 rfl (by kernel_rfl) ?_
  intro args v p h hp
  unfold geoRectF at h
  split at h
  · rename_i a b c d
    injection h with h; injection h with h1 h2; subst h1; subst h2
    clear hp
    refine ⟨rfl, _, _, (vc_geoRect _ a b c d).mpr ?_⟩
    simp [eqv, eqvL, kEq_self, fkEq_self]
  · cases h

def isRectF : PF := fun
  | [.agg [.int .i64 a, .int .i64 b, .int .i64 c, .int .i64 d]] => some (.bool (decide (a ≤ c ∧ b ≤ d)), none)
  | _ => none
theorem vc_isRect (R : SV → Prop) (a b c d : Int) : runA G0 0 [] [] (codeOf Tryz.f20) (init Tryz.f20.ntmps [.agg [.int .i64 a, .int .i64 b, .int .i64 c, .int .i64 d]] [] 0) (endK G0.E.T Tryz.f20.results.toList fun _ v => R v) = (
(((0 : Int) ≤ (0 : Int) ∧ (0 : Int) < (2 : Int)) ∧ True) ∧ (((0 : Int) ≤ (1 : Int) ∧ (1 : Int) < (2 : Int)) ∧ True) ∧ (decide (a ≤ c) = true → (((0 : Int) ≤ (0 : Int) ∧ (0 : Int) < (2 : Int)) ∧ True) ∧ (((0 : Int) ≤ (1 : Int) ∧ (1 : Int) < (2 : Int))
∧ True) ∧ R (SV.bool (decide (b ≤ d)))) ∧ (decide (a ≤ c) = false → R SV.ff)) := by kernel_rfl
theorem isRect : PureOk Tryz.prog 20 isRectF := by
  refine pure_of_vc g0 Tryz.func20 rfl (by kernel_rfl) ?_
  intro args v p h hp
  unfold isRectF at h
  split at h
  · rename_i a b c d
    injection h with h; injection h with h1 h2; subst h1; subst h2
    clear hp
    refine ⟨rfl, _, _, (vc_isRect _ a b c d).mpr ?_⟩
    simp only [eqv]
    grind
  · cases h

def inRectF : PF := fun
  | [.agg [.int .i64 a, .int .i64 b, .int .i64 c, .int .i64 d], .agg [.int .i64 x, .int .i64 y]] => some (.bool (decide (btw a c x ∧ btw b d y)), none)
  | _ => none
theorem vc_inRect (R : SV → Prop) (a b c d x y : Int) : runA GQ 0 [] [] (codeOf Tryz.f36) (init Tryz.f36.ntmps [.agg [.int .i64 a, .int .i64 b, .int .i64 c, .int .i64 d], .agg [.int .i64 x, .int .i64 y]] [] 0) (endK GQ.E.T Tryz.f36.results.toList fun _ v => R v) = (
(((0 : Int) ≤ (0 : Int) ∧ (0 : Int) < (2 : Int)) ∧ True) ∧ (((0 : Int) ≤ (1 : Int) ∧ (1 : Int) < (2 : Int)) ∧ True) ∧ R (SV.bool (decide (Go.Geo.btw a c x ∧ Go.Geo.btw b d y)))) := by kernel_rfl
theorem inRect : PureOk Tryz.prog 36 inRectF := by
  refine pure_of_vc gQ Tryz.func36 rfl (by kernel_rfl) ?_
  intro args v p h hp
  unfold inRectF at h
  split at h
  · rename_i a b c d x y
    injection h with h; injection h with h1 h2; subst h1; subst h2
    clear hp
    refine ⟨rfl, _, _, (vc_inRect _ a b c d x y).mpr ?_⟩
    simp [eqv]
  · cases h

def rectInF : PF := fun
  | [.agg [.int .i64 a, .int .i64 b, .int .i64 c, .int .i64 d], .agg [.int .i64 p, .int .i64 q, .int .i64 r, .int .i64 s]] => some (.bool (decide ((btw a c p ∧ btw b d q) ∧ (btw a c r ∧ btw b d s))), none)
  | _ => none
theorem vc_rectIn (R : SV → Prop) (a b c d p q r s : Int) : runA GQ 0 [] [] (codeOf Tryz.f41) (init Tryz.f41.ntmps [.agg [.int .i64 a, .int .i64 b, .int .i64 c, .int .i64 d], .agg [.int .i64 p, .int .i64 q, .int .i64 r, .int .i64 s]] [] 0) (endK GQ.E.T Tryz.f41.results.toList fun _ v => R v) = (
(((0 : Int) ≤ (0 : Int) ∧ (0 : Int) < (2 : Int)) ∧ True) ∧ (((0 : Int) ≤ (1 : Int) ∧ (1 : Int) < (2 : Int)) ∧ True) ∧ (((0 : Int) ≤ (0 : Int) ∧ (0 : Int) < (2 : Int)) ∧ True) ∧ (decide (Go.Geo.btw a c p ∧ Go.Geo.btw b d q) = true → (((0 : Int) ≤ (0 :
Int) ∧ (0 : Int) < (2 : Int)) ∧ True) ∧ (((0 : Int) ≤ (1 : Int) ∧ (1 : Int) < (2 : Int)) ∧ True) ∧ (((0 : Int) ≤ (1 : Int) ∧ (1 : Int) < (2 : Int)) ∧ True) ∧ R (SV.bool (decide (Go.Geo.btw a c r ∧ Go.Geo.btw b d s)))) ∧ (decide (Go.Geo.btw a c p ∧
Go.Geo.btw b d q) = false → R SV.ff)) := by kernel_rfl
theorem rectIn : PureOk Tryz.prog 41 rectInF := by
  refine pure_of_vc gQ Tryz.func41 rfl (by kernel_rfl) ?_
  intro args v p h hp
  unfold rectInF at h
  split at h
  · rename_i a b c d p q r s
    injection h with h; injection h with h1 h2; subst h1; subst h2
    clear hp
    refine ⟨rfl, _, _, (vc_rectIn _ a b c d p q r s).mpr ?_⟩
    simp only [eqv]
    grind
  · cases h

def rectsMeetF : PF := fun
  | [.agg [.int .i64 a, .int .i64 b, .int .i64 c, .int .i64 d], .agg [.int .i64 p, .int .i64 q, .int .i64 r, .int .i64 s]] => some (.bool (decide (a ≤ r ∧ p ≤ c ∧ b ≤ s ∧ q ≤ d)), none)
  | _ => none
theorem vc_rectsMeet (R : SV → Prop) (a b c d p q r s : Int) : runA GQ 0 [] [] (codeOf Tryz.f32) (init Tryz.f32.ntmps [.agg [.int .i64 a, .int .i64 b, .int .i64 c, .int .i64 d], .agg [.int .i64 p, .int .i64 q, .int .i64 r, .int .i64 s]] [] 0) (endK GQ.E.T Tryz.f32.results.toList fun _ v => R v) = (
(((0 : Int) ≤ (0 : Int) ∧ (0 : Int) < (2 : Int)) ∧ True) ∧ (((0 : Int) ≤ (1 : Int) ∧ (1 : Int) < (2 : Int)) ∧ True) ∧ (decide (a ≤ r) = true → (((0 : Int) ≤ (0 : Int) ∧ (0 : Int) < (2 : Int)) ∧ True) ∧ (((0 : Int) ≤ (1 : Int) ∧ (1 : Int) < (2 : Int))
∧ True) ∧ (decide (p ≤ c) = true → (((0 : Int) ≤ (0 : Int) ∧ (0 : Int) < (2 : Int)) ∧ True) ∧ (((0 : Int) ≤ (1 : Int) ∧ (1 : Int) < (2 : Int)) ∧ True) ∧ (decide (b ≤ s) = true → (((0 : Int) ≤ (0 : Int) ∧ (0 : Int) < (2 : Int)) ∧ True) ∧ (((0 : Int) ≤
(1 : Int) ∧ (1 : Int) < (2 : Int)) ∧ True) ∧ R (SV.bool (decide (q ≤ d)))) ∧ (decide (b ≤ s) = false → R SV.ff)) ∧ (decide (p ≤ c) = false → R SV.ff)) ∧ (decide (a ≤ r) = false → R SV.ff)) := by kernel_rfl
theorem rectsMeet : PureOk Tryz.prog 32 rectsMeetF := by
  refine pure_of_vc gQ Tryz.func32 rfl (by kernel_rfl) ?_
  intro args v p h hp
  unfold rectsMeetF at h
  split at h
  · rename_i a b c d p q r s
    injection h with h; injection h with h1 h2; subst h1; subst h2
    clear hp
    refine ⟨rfl, _, _, (vc_rectsMeet _ a b c d p q r s).mpr ?_⟩
    simp only [eqv]
    grind
  · cases h


/-! ### of floats -/
def GP : Ctx := ⟨⟨tys, []⟩, [(75, pureCon ptF)]⟩
theorem gP : CtxOk Tryz.prog GP := ⟨⟨tysOk, FlatsOk.nil⟩, GamOk.cons (.pure pt) GamOk.nil, by kernel_rfl⟩

def mkRectF : PF := fun
  | [.agg [.int .i64 a, .int .i64 b, .int .i64 c, .int .i64 d]] => some (.agg [.flt .f64 (ofI .f64 a), .flt .f64 (ofI .f64 b), .flt .f64 (ofI .f64 c), .flt .f64 (ofI .f64 d)], none)
  | _ => none
theorem vc_mkRect (R : SV → Prop) (a b c d : Int) : runA GP 0 [] [] (codeOf Tryz.f68) (init Tryz.f68.ntmps [.agg [.int .i64 a, .int .i64 b, .int .i64 c, .int .i64 d]] [] 0) (endK GP.E.T Tryz.f68.results.toList fun _ v => R v) = (
(((0 : Int) ≤ (0 : Int) ∧ (0 : Int) < (2 : Int)) ∧ True) ∧ (((0 : Int) ≤ (1 : Int) ∧ (1 : Int) < (2 : Int)) ∧ True) ∧ true = true ∧ R (SV.agg [SV.flt .f64 (Go.Sx.ofI .f64 a), SV.flt .f64 (Go.Sx.ofI .f64 b), SV.flt .f64 (Go.Sx.ofI .f64 c), SV.flt .f64
(Go.Sx.ofI .f64 d)])) := by kernel_rfl
theorem mkRect : PureOk Tryz.prog 68 mkRectF := by
  refine pure_of_vc gP Tryz.func68 rfl (by kernel_rfl) ?_
  intro args v p h hp
  unfold mkRectF at h
  split at h
  · rename_i a b c d
    injection h with h; injection h with h1 h2; subst h1; subst h2
    clear hp
    refine ⟨rfl, _, _, (vc_mkRect _ a b c d).mpr ?_⟩
    simp [eqv, eqvL, kEq_self, fkEq_self]
  · cases h

def rHasF : PF := fun
  | [.agg [.flt .f64 a, .flt .f64 b, .flt .f64 c, .flt .f64 d], .agg [.flt .f64 x, .flt .f64 y]] => some (.bool (fGe .f64 x a && fLe .f64 x c && fGe .f64 y b && fLe .f64 y d), none)
  | _ => none
theorem vc_rHas (R : SV → Prop) (a b c d x y : Nat) : runA G0 0 [] [] (codeOf Tryz.f169) (init Tryz.f169.ntmps [.agg [.flt .f64 a, .flt .f64 b, .flt .f64 c, .flt .f64 d], .agg [.flt .f64 x, .flt .f64 y]] [] 0) (endK G0.E.T Tryz.f169.results.toList fun _ v => R v) = (
(Go.Sx.fGe .f64 x a = true → (Go.Sx.fLe .f64 x c = true → (Go.Sx.fGe .f64 y b = true → R (SV.bool (Go.Sx.fLe .f64 y d))) ∧ (Go.Sx.fGe .f64 y b = false → R SV.ff)) ∧ (Go.Sx.fLe .f64 x c = false → R SV.ff)) ∧ (Go.Sx.fGe .f64 x a = false → R SV.ff)) := by kernel_rfl
theorem rHas : PureOk Tryz.prog 169 rHasF := by
  refine pure_of_vc g0 Tryz.func169 rfl (by kernel_rfl) ?_
  intro args v p h hp
  unfold rHasF at h
  split at h
  · rename_i a b c d x y
    injection h with h; injection h with h1 h2; subst h1; subst h2
    clear hp
    refine ⟨rfl, _, _, (vc_rHas _ a b c d x y).mpr ?_⟩
    simp only [eqv]
    grind
  · cases h

def GP2 : Ctx := ⟨⟨tys, []⟩, [(169, pureCon rHasF)]⟩
theorem gP2 : CtxOk Tryz.prog GP2 := ⟨⟨tysOk, FlatsOk.nil⟩, GamOk.cons (.pure rHas) GamOk.nil, by kernel_rfl⟩
def rMeetPF : PF := fun
  | [.agg [.flt .f64 a, .flt .f64 b, .flt .f64 c, .flt .f64 d], .agg [.flt .f64 x, .flt .f64 y]] => some (.bool (fGe .f64 x a && fLe .f64 x c && fGe .f64 y b && fLe .f64 y d), none)
  | _ => none
theorem vc_rMeetP (R : SV → Prop) (a b c d x y : Nat) : runA GP2 0 [] [] (codeOf Tryz.f194) (init Tryz.f194.ntmps [.agg [.flt .f64 a, .flt .f64 b, .flt .f64 c, .flt .f64 d], .agg [.flt .f64 x, .flt .f64 y]] [] 0) (endK GP2.E.T Tryz.f194.results.toList fun _ v => R v) = (
R (SV.bool (Go.Sx.fGe .f64 x a && Go.Sx.fLe .f64 x c && Go.Sx.fGe .f64 y b && Go.Sx.fLe .f64 y d))) := by kernel_rfl
theorem rMeetP : PureOk Tryz.prog 194 rMeetPF := by
  refine pure_of_vc gP2 Tryz.func194 rfl (by kernel_rfl) ?_
  intro args v p h hp
  unfold rMeetPF at h
  split at h
  · rename_i a b c d x y
    injection h with h; injection h with h1 h2; subst h1; subst h2
    clear hp
    refine ⟨rfl, _, _, (vc_rMeetP _ a b c d x y).mpr ?_⟩
    simp [eqv]
  · cases h

def rInF : PF := fun
  | [.agg [.flt .f64 a, .flt .f64 b, .flt .f64 c, .flt .f64 d], .agg [.flt .f64 p, .flt .f64 q, .flt .f64 r, .flt .f64 s]] => some (.bool (!(fLt .f64 p a) && !(fGt .f64 r c) && !(fLt .f64 q b) && !(fGt .f64 s d)), none)
  | _ => none
theorem vc_rIn (R : SV → Prop) (a b c d p q r s : Nat) : runA G0 0 [] [] (codeOf Tryz.f191) (init Tryz.f191.ntmps [.agg [.flt .f64 a, .flt .f64 b, .flt .f64 c, .flt .f64 d], .agg [.flt .f64 p, .flt .f64 q, .flt .f64 r, .flt .f64 s]] [] 0) (endK G0.E.T Tryz.f191.results.toList fun _ v => R v) = (
(Go.Sx.fLt .f64 p a = true → R SV.ff) ∧ (Go.Sx.fLt .f64 p a = false → (Go.Sx.fGt .f64 r c = true → R SV.ff) ∧ (Go.Sx.fGt .f64 r c = false → (Go.Sx.fLt .f64 q b = true → R SV.ff) ∧ (Go.Sx.fLt .f64 q b = false → (Go.Sx.fGt .f64 s d = true → R SV.ff) ∧
(Go.Sx.fGt .f64 s d = false → R SV.tt))))) := by kernel_rfl
theorem rIn : PureOk Tryz.prog 191 rInF := by
  refine pure_of_vc g0 Tryz.func191 rfl (by kernel_rfl) ?_
  intro args v p h hp
  unfold rInF at h
  split at h
  · rename_i a b c d p q r s
    injection h with h; injection h with h1 h2; subst h1; subst h2
    clear hp
    refine ⟨rfl, _, _, (vc_rIn _ a b c d p q r s).mpr ?_⟩
    simp only [eqv]
    grind
  · cases h

def rMeetF : PF := fun
  | [.agg [.flt .f64 a, .flt .f64 b, .flt .f64 c, .flt .f64 d], .agg [.flt .f64 p, .flt .f64 q, .flt .f64 r, .flt .f64 s]] => some (.bool (!(fGt .f64 b s) && !(fLt .f64 d q) && !(fGt .f64 a r) && !(fLt .f64 c p)), none)
  | _ => none
theorem vc_rMeet (R : SV → Prop) (a b c d p q r s : Nat) : runA G0 0 [] [] (codeOf Tryz.f175) (init Tryz.f175.ntmps [.agg [.flt .f64 a, .flt .f64 b, .flt .f64 c, .flt .f64 d], .agg [.flt .f64 p, .flt .f64 q, .flt .f64 r, .flt .f64 s]] [] 0) (endK G0.E.T Tryz.f175.results.toList fun _ v => R v) = (
(Go.Sx.fGt .f64 b s = true → R SV.ff) ∧ (Go.Sx.fGt .f64 b s = false → (Go.Sx.fLt .f64 d q = true → R SV.ff) ∧ (Go.Sx.fLt .f64 d q = false → (Go.Sx.fGt .f64 a r = true → R SV.ff) ∧ (Go.Sx.fGt .f64 a r = false → (Go.Sx.fLt .f64 c p = true → R SV.ff) ∧
(Go.Sx.fLt .f64 c p = false → R SV.tt))))) := by kernel_rfl
theorem rMeet : PureOk Tryz.prog 175 rMeetF := by
  refine pure_of_vc g0 Tryz.func175 rfl (by kernel_rfl) ?_
  intro args v p h hp
  unfold rMeetF at h
  split at h
  · rename_i a b c d p q r s
    injection h with h; injection h with h1 h2; subst h1; subst h2
    clear hp
    refine ⟨rfl, _, _, (vc_rMeet _ a b c d p q r s).mpr ?_⟩
    simp only [eqv]
    grind
  · cases h

def rEmptyF : PF := fun
  | [.agg [.flt .f64 a, .flt .f64 b, .flt .f64 c, .flt .f64 d]] => some (.ff, none)
  | _ => none
theorem vc_rEmpty (R : SV → Prop) (a b c d : Nat) : runA G0 0 [] [] (codeOf Tryz.f192) (init Tryz.f192.ntmps [.agg [.flt .f64 a, .flt .f64 b, .flt .f64 c, .flt .f64 d]] [] 0) (endK G0.E.T Tryz.f192.results.toList fun _ v => R v) = (
R SV.ff) := by kernel_rfl
theorem rEmpty : PureOk Tryz.prog 192 rEmptyF := by
  refine pure_of_vc g0 Tryz.func192 rfl (by kernel_rfl) ?_
  intro args v p h hp
  unfold rEmptyF at h
  split at h
  · rename_i a b c d
    injection h with h; injection h with h1 h2; subst h1; subst h2
    clear hp
    refine ⟨rfl, _, _, (vc_rEmpty _ a b c d).mpr ?_⟩
    simp [eqv, eqvL, kEq_self, fkEq_self]
  · cases h
def rConvexF : PF := fun
  | [.agg [.flt .f64 a, .flt .f64 b, .flt .f64 c, .flt .f64 d]] => some (.tt, none)
  | _ => none
theorem vc_rConvex (R : SV → Prop) (a b c d : Nat) : runA G0 0 [] [] (codeOf Tryz.f250) (init Tryz.f250.ntmps [.agg [.flt .f64 a, .flt .f64 b, .flt .f64 c, .flt .f64 d]] [] 0) (endK G0.E.T Tryz.f250.results.toList fun _ v => R v) = (
R SV.tt) := by kernel_rfl
theorem rConvex : PureOk Tryz.prog 250 rConvexF := by
  refine pure_of_vc g0 Tryz.func250 rfl (by kernel_rfl) ?_
  intro args v p h hp
  unfold rConvexF at h
  split at h
  · rename_i a b c d
    injection h with h; injection h with h1 h2; subst h1; subst h2
    clear hp
    refine ⟨rfl, _, _, (vc_rConvex _ a b c d).mpr ?_⟩
    simp [eqv, eqvL, kEq_self, fkEq_self]
  · cases h
def rClockF : PF := fun
  | [.agg [.flt .f64 a, .flt .f64 b, .flt .f64 c, .flt .f64 d]] => some (.ff, none)
  | _ => none
theorem vc_rClock (R : SV → Prop) (a b c d : Nat) : runA G0 0 [] [] (codeOf Tryz.f249) (init Tryz.f249.ntmps [.agg [.flt .f64 a, .flt .f64 b, .flt .f64 c, .flt .f64 d]] [] 0) (endK G0.E.T Tryz.f249.results.toList fun _ v => R v) = (
R SV.ff) := by kernel_rfl
theorem rClock : PureOk Tryz.prog 249 rClockF := by
  refine pure_of_vc g0 Tryz.func249 rfl (by kernel_rfl) ?_
  intro args v p h hp
  unfold rClockF at h
  split at h
  · rename_i a b c d
    injection h with h; injection h with h1 h2; subst h1; subst h2
    clear hp
    refine ⟨rfl, _, _, (vc_rClock _ a b c d).mpr ?_⟩
    simp [eqv, eqvL, kEq_self, fkEq_self]
  · cases h
def rNumPF : PF := fun
  | [.agg [.flt .f64 a, .flt .f64 b, .flt .f64 c, .flt .f64 d]] => some (.int .i64 5, none)
  | _ => none
theorem vc_rNumP (R : SV → Prop) (a b c d : Nat) : runA G0 0 [] [] (codeOf Tryz.f196) (init Tryz.f196.ntmps [.agg [.flt .f64 a, .flt .f64 b, .flt .f64 c, .flt .f64 d]] [] 0) (endK G0.E.T Tryz.f196.results.toList fun _ v => R v) = (
R (SV.int .i64 (5 : Int))) := by kernel_rfl
theorem rNumP : PureOk Tryz.prog 196 rNumPF := by
  refine pure_of_vc g0 Tryz.func196 rfl (by kernel_rfl) ?_
  intro args v p h hp
  unfold rNumPF at h
  split at h
  · rename_i a b c d
    injection h with h; injection h with h1 h2; subst h1; subst h2
    clear hp
    refine ⟨rfl, _, _, (vc_rNumP _ a b c d).mpr ?_⟩
    simp [eqv, eqvL, kEq_self, fkEq_self]
  · cases h
def rNumSF : PF := fun
  | [.agg [.flt .f64 a, .flt .f64 b, .flt .f64 c, .flt .f64 d]] => some (.int .i64 4, none)
  | _ => none
theorem vc_rNumS (R : SV → Prop) (a b c d : Nat) : runA G0 0 [] [] (codeOf Tryz.f203) (init Tryz.f203.ntmps [.agg [.flt .f64 a, .flt .f64 b, .flt .f64 c, .flt .f64 d]] [] 0) (endK G0.E.T Tryz.f203.results.toList fun _ v => R v) = (
R (SV.int .i64 (4 : Int))) := by kernel_rfl
theorem rNumS : PureOk Tryz.prog 203 rNumSF := by
  refine pure_of_vc g0 Tryz.func203 rfl (by kernel_rfl) ?_
  intro args v p h hp
  unfold rNumSF at h
  split at h
  · rename_i a b c d
    injection h with h; injection h with h1 h2; subst h1; subst h2
    clear hp
    refine ⟨rfl, _, _, (vc_rNumS _ a b c d).mpr ?_⟩
    simp [eqv, eqvL, kEq_self, fkEq_self]
  · cases h

def pvalid (x y : Nat) : Bool := fGe .f64 x 13863909240395005952 && fLe .f64 x 4640537203540230144 && fGe .f64 y 13859405640767635456 && fLe .f64 y 4636033603912859648
def pValidF : PF := fun
  | [.agg [.flt .f64 x, .flt .f64 y]] => some (.bool (pvalid x y), none)
  | _ => none
theorem vc_pValid (R : SV → Prop) (x y : Nat) : runA G0 0 [] [] (codeOf Tryz.f162) (init Tryz.f162.ntmps [.agg [.flt .f64 x, .flt .f64 y]] [] 0) (endK G0.E.T Tryz.f162.results.toList fun _ v => R v) = (
(Go.Sx.fGe .f64 x (13863909240395005952 : Nat) = true → (Go.Sx.fLe .f64 x (4640537203540230144 : Nat) = true → (Go.Sx.fGe .f64 y (13859405640767635456 : Nat) = true → R (SV.bool (Go.Sx.fLe .f64 y (4636033603912859648 : Nat)))) ∧ (Go.Sx.fGe .f64 y
(13859405640767635456 : Nat) = false → R SV.ff)) ∧ (Go.Sx.fLe .f64 x (4640537203540230144 : Nat) = false → R SV.ff)) ∧ (Go.Sx.fGe .f64 x (13863909240395005952 : Nat) = false → R SV.ff)) := by kernel_rfl
theorem pValid : PureOk Tryz.prog 162 pValidF := by
  refine pure_of_vc g0 Tryz.func162 rfl (by kernel_rfl) ?_
  intro args v p h hp
  unfold pValidF at h
  split at h
  · rename_i x y
    injection h with h; injection h with h1 h2; subst h1; subst h2
    clear hp
    refine ⟨rfl, _, _, (vc_pValid _ x y).mpr ?_⟩
    simp only [eqv, pvalid]
    grind
  · cases h
def GP3 : Ctx := ⟨⟨tys, []⟩, [(162, pureCon pValidF)]⟩
theorem gP3 : CtxOk Tryz.prog GP3 := ⟨⟨tysOk, FlatsOk.nil⟩, GamOk.cons (.pure pValid) GamOk.nil, by kernel_rfl⟩
def rValidF : PF := fun
  | [.agg [.flt .f64 a, .flt .f64 b, .flt .f64 c, .flt .f64 d]] => some (.bool (pvalid a b && pvalid c d), none)
  | _ => none
theorem vc_rValid (R : SV → Prop) (a b c d : Nat) : runA GP3 0 [] [] (codeOf Tryz.f200) (init Tryz.f200.ntmps [.agg [.flt .f64 a, .flt .f64 b, .flt .f64 c, .flt .f64 d]] [] 0) (endK GP3.E.T Tryz.f200.results.toList fun _ v => R v) = (
(Go.Proofs.Tryz.Sx.pvalid a b = true → R (SV.bool (Go.Proofs.Tryz.Sx.pvalid c d))) ∧ (Go.Proofs.Tryz.Sx.pvalid a b = false → R SV.ff)) := by kernel_rfl
theorem rValid : PureOk Tryz.prog 200 rValidF := by
  refine pure_of_vc gP3 Tryz.func200 rfl (by kernel_rfl) ?_
  intro args v p h hp
  unfold rValidF at h
  split at h
  · rename_i a b c d
    injection h with h; injection h with h1 h2; subst h1; subst h2
    clear hp
    refine ⟨rfl, _, _, (vc_rValid _ a b c d).mpr ?_⟩
    simp only [eqv]
    grind
  · cases h

def rAreaF : PF := fun
  | [.agg [.flt .f64 a, .flt .f64 b, .flt .f64 c, .flt .f64 d]] => some (.flt .f64 (fop .mul .f64 (fop .sub .f64 c a) (fop .sub .f64 d b)), some (fok .sub .f64 c a ∧ fok .sub .f64 d b ∧ fok .mul .f64 (fop .sub .f64 c a) (fop .sub .f64 d b)))
  | _ => none
theorem vc_rArea (R : SV → Prop) (a b c d : Nat) : runA G0 0 [] [] (codeOf Tryz.f188) (init Tryz.f188.ntmps [.agg [.flt .f64 a, .flt .f64 b, .flt .f64 c, .flt .f64 d]] [] 0) (endK G0.E.T Tryz.f188.results.toList fun _ v => R v) = (
Go.Sx.fok BinOp.sub .f64 c a ∧ Go.Sx.fok BinOp.sub .f64 d b ∧ Go.Sx.fok BinOp.mul .f64 (Go.Sx.fop BinOp.sub .f64 c a) (Go.Sx.fop BinOp.sub .f64 d b) ∧ R (SV.flt .f64 (Go.Sx.fop BinOp.mul .f64 (Go.Sx.fop BinOp.sub .f64 c a) (Go.Sx.fop BinOp.sub .f64 d
b)))) := by kernel_rfl
theorem rArea : PureOk Tryz.prog 188 rAreaF := by
  refine pure_of_vc g0 Tryz.func188 rfl (by kernel_rfl) ?_
  intro args v p h hp
  unfold rAreaF at h
  split at h
  · rename_i a b c d
    injection h with h; injection h with h1 h2; subst h1; subst h2
    have hp : fok .sub .f64 c a ∧ fok .sub .f64 d b ∧ fok .mul .f64 (fop .sub .f64 c a) (fop .sub .f64 d b) := hp
    refine ⟨rfl, _, _, (vc_rArea _ a b c d).mpr ?_⟩
    exact ⟨hp.1, hp.2.1, hp.2.2, rfl⟩
  · cases h

def fdiv (x y : Nat) : Nat := (floatBits .quo .f64 x y).getD 0
def fdok (x y : Nat) : Prop := (floatBits .quo .f64 x y).isSome = true
theorem quo_det {x y r : Nat} (h : QuoRel .f64 x y r) (hk : fdok x y) : r = fdiv x y := by
  unfold QuoRel at h
  unfold fdok at hk
  unfold fdiv
  cases hq : floatBits .quo .f64 x y with
  | none => rw [hq] at hk; cases hk
  | some v => rw [hq] at h; simpa using h


def fromPF : PF := fun
  | [.agg [.flt .f64 x, .flt .f64 y]] => some (.agg [.int .i64 (toI .f64 x .i64), .int .i64 (toI .f64 y .i64)], some (toIok .f64 x .i64 ∧ toIok .f64 y .i64))
  | _ => none
theorem vc_fromP (R : SV → Prop) (x y : Nat) : runA G0 0 [] [] (codeOf Tryz.f80) (init Tryz.f80.ntmps [.agg [.flt .f64 x, .flt .f64 y]] [] 0) (endK G0.E.T Tryz.f80.results.toList fun _ v => R v) = (
Go.Sx.toIok .f64 x .i64 ∧ Go.Sx.toIok .f64 y .i64 ∧ R (SV.agg [SV.int .i64 (Go.Sx.toI .f64 x .i64), SV.int .i64 (Go.Sx.toI .f64 y .i64)])) := by kernel_rfl
theorem fromP : PureOk Tryz.prog 80 fromPF := by
  refine pure_of_vc g0 Tryz.func80 rfl (by kernel_rfl) ?_
  intro args v p h hp
  unfold fromPF at h
  split at h
  · rename_i x y
    injection h with h; injection h with h1 h2; subst h1; subst h2
    have hp : toIok .f64 x .i64 ∧ toIok .f64 y .i64 := hp
    refine ⟨rfl, _, _, (vc_fromP _ x y).mpr ?_⟩
    exact ⟨hp.1, hp.2, rfl, rfl, trivial⟩
  · cases h


def ptAt (a b c d : Nat) (i : Int) : Nat × Nat := if i = 0 then (a, b) else if i = 1 then (c, b) else if i = 2 then (c, d) else if i = 3 then (a, d) else (a, b)
def rPointAtF : PF := fun
  | [.agg [.flt .f64 a, .flt .f64 b, .flt .f64 c, .flt .f64 d], .int .i64 i] => some (.agg [.flt .f64 (ptAt a b c d i).1, .flt .f64 (ptAt a b c d i).2], some (0 ≤ i ∧ i ≤ 4))
  | _ => none
theorem vc_rPointAt (R : SV → Prop) (a b c d : Nat) (i : Int) : runA G0 0 [] [] (codeOf Tryz.f197) (init Tryz.f197.ntmps [.agg [.flt .f64 a, .flt .f64 b, .flt .f64 c, .flt .f64 d], .int .i64 i] [] 0) (endK G0.E.T Tryz.f197.results.toList fun _ v => R v) = (
((i == (0 : Int)) = true → R (SV.agg [SV.flt .f64 a, SV.flt .f64 b])) ∧ ((i == (0 : Int)) = false → ((i == (1 : Int)) = true → R (SV.agg [SV.flt .f64 c, SV.flt .f64 b])) ∧ ((i == (1 : Int)) = false → ((i == (2 : Int)) = true → R (SV.agg [SV.flt .f64
c, SV.flt .f64 d])) ∧ ((i == (2 : Int)) = false → ((i == (3 : Int)) = true → R (SV.agg [SV.flt .f64 a, SV.flt .f64 d])) ∧ ((i == (3 : Int)) = false → ((i == (4 : Int)) = true → R (SV.agg [SV.flt .f64 a, SV.flt .f64 b])) ∧ ((i == (4 : Int)) = false →
False)))))) := by kernel_rfl
theorem rPointAt : PureOk Tryz.prog 197 rPointAtF := by
  refine pure_of_vc g0 Tryz.func197 rfl (by kernel_rfl) ?_
  intro args v p h hp
  unfold rPointAtF at h
  split at h
  · rename_i a b c d i
    injection h with h; injection h with h1 h2; subst h1; subst h2
    have hp : 0 ≤ i ∧ i ≤ 4 := hp
    refine ⟨rfl, _, _, (vc_rPointAt _ a b c d i).mpr ?_⟩
    simp only [eqv, eqvL, ptAt, fkEq_self]
    grind
  · cases h
def rSegAtF : PF := fun
  | [.agg [.flt .f64 a, .flt .f64 b, .flt .f64 c, .flt .f64 d], .int .i64 i] => some (.agg [.flt .f64 (ptAt a b c d i).1, .flt .f64 (ptAt a b c d i).2, .flt .f64 (ptAt a b c d (i + 1)).1, .flt .f64 (ptAt a b c d (i + 1)).2], some (0 ≤ i ∧ i ≤ 3))
  | _ => none
theorem vc_rSegAt (R : SV → Prop) (a b c d : Nat) (i : Int) : runA G0 0 [] [] (codeOf Tryz.f204) (init Tryz.f204.ntmps [.agg [.flt .f64 a, .flt .f64 b, .flt .f64 c, .flt .f64 d], .int .i64 i] [] 0) (endK G0.E.T Tryz.f204.results.toList fun _ v => R v) = (
((i == (0 : Int)) = true → R (SV.agg [SV.flt .f64 a, SV.flt .f64 b, SV.flt .f64 c, SV.flt .f64 b])) ∧ ((i == (0 : Int)) = false → ((i == (1 : Int)) = true → R (SV.agg [SV.flt .f64 c, SV.flt .f64 b, SV.flt .f64 c, SV.flt .f64 d])) ∧ ((i == (1 : Int))
= false → ((i == (2 : Int)) = true → R (SV.agg [SV.flt .f64 c, SV.flt .f64 d, SV.flt .f64 a, SV.flt .f64 d])) ∧ ((i == (2 : Int)) = false → ((i == (3 : Int)) = true → R (SV.agg [SV.flt .f64 a, SV.flt .f64 d, SV.flt .f64 a, SV.flt .f64 b])) ∧ ((i ==
(3 : Int)) = false → False))))) := by kernel_rfl
theorem rSegAt : PureOk Tryz.prog 204 rSegAtF := by
  refine pure_of_vc g0 Tryz.func204 rfl (by kernel_rfl) ?_
  intro args v p h hp
  unfold rSegAtF at h
  split at h
  · rename_i a b c d i
    injection h with h; injection h with h1 h2; subst h1; subst h2
    have hp : 0 ≤ i ∧ i ≤ 3 := hp
    refine ⟨rfl, _, _, (vc_rSegAt _ a b c d i).mpr ?_⟩
    simp only [eqv, eqvL, ptAt, fkEq_self]
    grind
  · cases h

/-! ### Slices of points -/
def GA : Ctx := ⟨⟨tys, []⟩, [(62, pureCon implF)]⟩
theorem gA : CtxOk Tryz.prog GA := ⟨⟨tysOk, FlatsOk.nil⟩, GamOk.cons (.pure impl) GamOk.nil, by kernel_rfl⟩
def awakeF : PF := fun
  | [] => some (.tt, none)
  | _ => none
theorem vc_awake (R : SV → Prop) : runA GA 0 [] [] (codeOf Tryz.f21) (init Tryz.f21.ntmps [] [] 0) (endK GA.E.T Tryz.f21.results.toList fun _ v => R v) = (
Go.Proofs.Tryz.Sx.small6 (0 : Int) (0 : Int) (2 : Int) (2 : Int) (1 : Int) (1 : Int) ∧ R (SV.bool true)) := by kernel_rfl
theorem awake : PureOk Tryz.prog 21 awakeF := by
  refine pure_of_vc gA Tryz.func21 rfl (by kernel_rfl) ?_
  intro args v p h hp
  unfold awakeF at h
  split at h
  · injection h with h; injection h with h1 h2; subst h1; subst h2
    clear hp
    refine ⟨rfl, _, _, (vc_awake _).mpr ?_⟩
    exact ⟨by unfold small6 small; omega, by simp [eqv]⟩
  · cases h

def pt4 (a b c d : Int) (i : Nat) : Int := [a, b, c, b, c, d, a, d, a, b].getD i 0
noncomputable def corners4C : List SV → RdM
  | [.agg [.int .i64 a, .int .i64 b, .int .i64 c, .int .i64 d]] => .ret ⟨[.agg [.int .i64 a, .int .i64 b, .int .i64 c, .int .i64 d]], [], .slcc 0 5, [], [(0, ⟨true, 28, .cells [.int .i64 a, .int .i64 b, .int .i64 c, .int .i64 b, .int .i64 c, .int .i64 d, .int .i64 a, .int .i64 d, .int .i64 a, .int .i64 b], 2⟩)], some (True)⟩
  | _ => .fail
theorem vc_corners4 (a b c d : Int) : runA G0 0 [] [] (codeOf Tryz.f56) (init Tryz.f56.ntmps [.agg [.int .i64 a, .int .i64 b, .int .i64 c, .int .i64 d]] [] 0) (endK G0.E.T Tryz.f56.results.toList fun S v => postP 0 ⟨[.agg [.int .i64 a, .int .i64 b, .int .i64 c, .int .i64 d]], [], .slcc 0 5, [], [(0, ⟨true, 28, .cells [.int .i64 a, .int .i64 b, .int .i64 c, .int .i64 b, .int .i64 c, .int .i64 d, .int .i64 a, .int .i64 d, .int .i64 a, .int .i64 b], 2⟩)], some (True)⟩ S v) = (
(((0 : Int) ≤ (0 : Int) ∧ (0 : Int) < (2 : Int)) ∧ True) ∧ (((0 : Int) ≤ (1 : Int) ∧ (1 : Int) < (2 : Int)) ∧ True) ∧ (((0 : Int) ≤ (0 : Int) ∧ (0 : Int) < (2 : Int)) ∧ True) ∧ (((0 : Int) ≤ (1 : Int) ∧ (1 : Int) < (2 : Int)) ∧ True) ∧ (((0 : Int) ≤
(0 : Int) ∧ (0 : Int) < (2 : Int)) ∧ True) ∧ (((0 : Int) ≤ (1 : Int) ∧ (1 : Int) < (2 : Int)) ∧ True) ∧ (((0 : Int) ≤ (0 : Int) ∧ (0 : Int) < (2 : Int)) ∧ True) ∧ (True ∧ (5 : Nat) = (5 : Nat)) ∧ True ∧ ((28 : Nat) = (28 : Nat) ∧ (2 : Nat) = (2 :
Nat) ∧ a = a ∧ b = b ∧ c = c ∧ b = b ∧ c = c ∧ d = d ∧ a = a ∧ d = d ∧ a = a ∧ b = b ∧ True) ∧ True) := by kernel_rfl
theorem corners4 : ConOk Tryz.prog 56 (conR corners4C) := by
  refine con_of_vc g0 Tryz.func56 rfl (by kernel_rfl) fun args => ?_
  unfold corners4C
  split
  · rename_i a b c d
    intro ho
    replace ho : True := ho
    refine ⟨?_, _, _, (vc_corners4 a b c d).mpr ?_⟩
    · refine okFlag_mk rfl ⟨?_, trivial⟩
      simp [eqvRL, eqvR, kEq_self, fkEq_self, sgSig, fsts, nth, sameN_self]
    · simp
  · trivial

theorem flat31 : FlatEq Tryz.prog 28 [false, false] :=
  (fe_struct2 tysOk (t := 28) (e0 := 2) (e1 := 2) Tryz.underlying28 (by kernel_rfl) (by decide) (by decide) ⟨rfl, rfl⟩ ⟨rfl, rfl⟩ (by rfl) (by rfl) rfl rfl).flat (by kernel_rfl) (by decide)
theorem fe31 : FE Tryz.prog 28 [false, false] 2 :=
  fe_struct2 tysOk (t := 28) (e0 := 2) (e1 := 2) Tryz.underlying28 (by kernel_rfl) (by decide) (by decide) ⟨rfl, rfl⟩ ⟨rfl, rfl⟩ (by rfl) (by rfl) rfl rfl
theorem flat23 : FlatEq Tryz.prog 23 [false, false] :=
  (fe_struct2 tysOk (t := 23) (e0 := 2) (e1 := 2) Tryz.underlying23 (by kernel_rfl) (by decide) (by decide) ⟨rfl, rfl⟩ ⟨rfl, rfl⟩ (by rfl) (by rfl) rfl rfl).flat (by kernel_rfl) (by decide)
theorem flat34 : FlatEq Tryz.prog 29 [false, false, false, false] :=
  (fe_array2 tysOk (t := 29) (e := 28) Tryz.underlying29 (by rfl) rfl rfl fe31).flat (by kernel_rfl) (by decide)

def FL : Flats := [(28, [false, false]), (23, [false, false]), (29, [false, false, false, false])]
theorem flOk : FlatsOk Tryz.prog FL := FlatsOk.cons flat31 (FlatsOk.cons flat23 (FlatsOk.cons flat34 FlatsOk.nil))

def GS : Ctx := ⟨⟨tys, FL⟩, [(17, pureCon geoRectF)]⟩
theorem gS : CtxOk Tryz.prog GS := ⟨⟨tysOk, flOk⟩, GamOk.cons (.pure geoRect) GamOk.nil, by kernel_rfl⟩

def sameL (len : Nat) (g h : Nat → Int) : Fam := ⟨Nat, fun i =>
  ⟨26, [(0, .slcc 0 len), (1, .slcc 1 len), (12, .int .i64 len), (13, .int .i64 i)], [(0, ⟨false, 23, .ints .i64 (2 * len) g, 0⟩), (1, ⟨false, 28, .ints .i64 (2 * len) h, 0⟩)], 2⟩, fun i => i ≤ len ∧ ∀ j, j < 2 * i → g j = h j, fun i => len - i⟩
def agree (m : Nat) (g h : Nat → Int) : Prop := ∀ j, j < m → g j = h j
instance (m : Nat) (g h : Nat → Int) : Decidable (agree m g h) := by unfold agree; infer_instance

noncomputable def geoSameC : List SV → RdM
  | [.slcc n0 len, .slcc n1 len1] => .read n0 fun o0 => (match intsFrom .i64 o0.c with
    | some (m0, g) => .read n1 fun o1 => (match intsFrom .i64 o1.c with
    | some (m1, h) => .ret ⟨[.slcc 0 len, .slcc 1 len], [(0, ⟨false, 23, .ints .i64 m0 g, 0⟩), (1, ⟨false, 28, .ints .i64 m1 h, 0⟩)], .bool (decide (agree (2 * len) g h)), [], [], some (len = len1 ∧ m0 = 2 * len ∧ m1 = 2 * len ∧ len ≤ 1000000)⟩
    | none => .fail)
    | none => .fail)
  | _ => .fail
theorem vc_geoSame (len : Nat)  (g : Nat → Int) (h : Nat → Int) : runA GS 2 [(4, sameL len g h)] [] (codeOf Tryz.f66) (init Tryz.f66.ntmps [.slcc 0 len, .slcc 1 len] [(0, ⟨false, 23, .ints .i64 (2 * len) g, 0⟩), (1, ⟨false, 28, .ints .i64 (2 * len) h, 0⟩)] 2) (endK GS.E.T Tryz.f66.results.toList fun S v => postP 2 ⟨[.slcc 0 len, .slcc 1 len], [(0, ⟨false, 23, .ints .i64 (2 * len) g, 0⟩), (1, ⟨false, 28, .ints .i64 (2 * len) h, 0⟩)], .bool (decide (agree (2 * len) g h)), [], [], some (len = len ∧ 2 * len = 2 * len ∧ 2 * len = 2 * len ∧ len ≤ 1000000)⟩ S v) = (
(((↑len : Int) != (↑len : Int)) = true → decide (Go.Proofs.Tryz.Sx.agree ((2 : Nat) * len) g h) = false ∧ True) ∧ (((↑len : Int) != (↑len : Int)) = false → (∃ (i : Nat), (i ≤ len ∧ ∀ (j : Nat), j < (2 : Nat) * i → g j = h j) ∧ ((True ∧ len = len) ∧
(True ∧ len = len) ∧ (↑len : Int) = (↑len : Int) ∧ (0 : Int) = (↑i : Int) ∧ True) ∧ True ∧ ((2 : Nat) * len ≤ (2 : Nat) * len ∧ ∀ (i : Nat), i < (2 : Nat) * len → g i = g i) ∧ True ∧ ((2 : Nat) * len ≤ (2 : Nat) * len ∧ ∀ (i : Nat), i < (2 : Nat) *
len → h i = h i) ∧ True) ∧ ∀ (i : Nat), (i ≤ len ∧ ∀ (j : Nat), j < (2 : Nat) * i → g j = h j) → (decide ((↑i : Int) < (↑len : Int)) = true → (((0 : Int) ≤ (↑i : Int) ∧ (↑i : Int) < (↑len : Int)) ∧ (1 : Nat) ≤ (2 : Nat) * len) ∧ (0 : Nat) + Int.toNat
(↑i : Int) * (2 : Nat) + (2 : Nat) ≤ (2 : Nat) * len ∧ (((0 : Int) ≤ (↑i : Int) ∧ (↑i : Int) < (↑len : Int)) ∧ (1 : Nat) ≤ (2 : Nat) * len) ∧ (0 : Nat) + Int.toNat (↑i : Int) * (2 : Nat) + (2 : Nat) ≤ (2 : Nat) * len ∧ true = true ∧ ((!(g ((0 : Nat)
+ Int.toNat (↑i : Int) * (2 : Nat)) == h ((0 : Nat) + Int.toNat (↑i : Int) * (2 : Nat)) && (g ((0 : Nat) + Int.toNat (↑i : Int) * (2 : Nat) + (1 : Nat)) == h ((0 : Nat) + Int.toNat (↑i : Int) * (2 : Nat) + (1 : Nat)) && true))) = true → decide
(Go.Proofs.Tryz.Sx.agree ((2 : Nat) * len) g h) = false ∧ True) ∧ ((!(g ((0 : Nat) + Int.toNat (↑i : Int) * (2 : Nat)) == h ((0 : Nat) + Int.toNat (↑i : Int) * (2 : Nat)) && (g ((0 : Nat) + Int.toNat (↑i : Int) * (2 : Nat) + (1 : Nat)) == h ((0 :
Nat) + Int.toNat (↑i : Int) * (2 : Nat) + (1 : Nat)) && true))) = false → ∃ (i' : Nat), (i' ≤ len ∧ ∀ (j : Nat), j < (2 : Nat) * i' → g j = h j) ∧ len - i' < len - i ∧ ((True ∧ len = len) ∧ (True ∧ len = len) ∧ (↑len : Int) = (↑len : Int) ∧
Go.IntKind.wrap .i64 ((↑i : Int) + (1 : Int)) = (↑i' : Int) ∧ True) ∧ True ∧ ((2 : Nat) * len ≤ (2 : Nat) * len ∧ ∀ (i : Nat), i < (2 : Nat) * len → g i = g i) ∧ True ∧ ((2 : Nat) * len ≤ (2 : Nat) * len ∧ ∀ (i : Nat), i < (2 : Nat) * len → h i = h
i) ∧ True)) ∧ (decide ((↑i : Int) < (↑len : Int)) = false → decide (Go.Proofs.Tryz.Sx.agree ((2 : Nat) * len) g h) = true ∧ True))) := by kernel_rfl
theorem geoSame : ConOk Tryz.prog 66 (conR geoSameC) := by
  refine con_of_vc gS Tryz.func66 rfl (by kernel_rfl) fun args => ?_
  unfold geoSameC
  split
  · rename_i n0 len n1 len1
    intro o0
    show RdM.All _ (match intsFrom .i64 o0.c with | some (m, g) => _ | none => _) _
    split
    · rename_i m0 g hm0
      intro o1
      show RdM.All _ (match intsFrom .i64 o1.c with | some (m, g) => _ | none => _) _
      split
      · rename_i m1 h hm1
        intro ho
        replace ho : len = len1 ∧ m0 = 2 * len ∧ m1 = 2 * len ∧ len ≤ 1000000 := ho
        obtain ⟨heq0, hsz0, hsz1, ho⟩ := ho
        subst heq0
        subst hsz0
        subst hsz1
        refine ⟨?_, _, _, (vc_geoSame len g h).mpr ?_⟩
        · refine okFlag_mk rfl ⟨?_, ⟨trivial, (contR_ints hm0).1, ⟨trivial, (contR_ints hm1).1, trivial⟩⟩⟩
          simp [eqvRL, eqvR, kEq_self, fkEq_self, sgSig, fsts, nth, sameN_self]
        · refine ⟨fun h => absurd h (by simp), fun _ => ⟨⟨0, by simp⟩, fun i hi => ⟨fun h => ?_, fun h => ?_⟩⟩⟩
          · have h := of_decide_eq_true h
            have e : 0 + (i : Int).toNat * 2 = 2 * i := by omega
            have hw : IntKind.i64.wrap ((i : Int) + 1) = ((i + 1 : Nat) : Int) := by rw [wrap64 (by omega) (by omega)]; omega
            rw [e]
            refine ⟨by omega, by omega, by omega, by omega, rfl, fun hne => ⟨decide_eq_false fun ha => ?_, trivial⟩, fun heq => ⟨i + 1, ⟨by omega, fun j hj => ?_⟩, by omega, by simp [hw]⟩⟩
            · have h1 := ha (2 * i) (by omega)
              have h2 := ha (2 * i + 1) (by omega)
              simp [h1, h2] at hne
            · simp at heq
              have : j < 2 * i ∨ j = 2 * i ∨ j = 2 * i + 1 := by omega
              rcases this with hlt | rfl | rfl
              · exact hi.2 j hlt
              · exact heq.1
              · exact heq.2
          · have h := of_decide_eq_false h
            have : i = len := by omega
            subst this
            exact ⟨decide_eq_true hi.2, trivial⟩
      · trivial
    · trivial
  · trivial

def sameSegL (len : Nat) (g h : Nat → Int) : Fam := ⟨Nat, fun i =>
  ⟨27, [(0, .slcc 0 len), (1, .slcc 1 len), (12, .int .i64 len), (13, .int .i64 i)], [(0, ⟨false, 24, .ints .i64 (4 * len) g, 0⟩), (1, ⟨false, 29, .ints .i64 (4 * len) h, 0⟩)], 2⟩, fun i => i ≤ len ∧ ∀ j, j < 4 * i → g j = h j, fun i => len - i⟩

def geoValid (m : Nat) (g : Nat → Int) : Bool := decide (∀ i, i < m → -180 ≤ g (2 * i) ∧ g (2 * i) ≤ 180 ∧ -90 ≤ g (2 * i + 1) ∧ g (2 * i + 1) ≤ 90)
def validL (len : Nat) (g : Nat → Int) : Fam := ⟨Nat, fun i =>
  ⟨30, [(5, .slcc 0 len), (6, .int .i64 len), (7, .int .i64 i)], [(0, ⟨false, 28, .ints .i64 (2 * len) g, 0⟩)], 1⟩, fun i => i ≤ len ∧ geoValid i g = true, fun i => len - i⟩
noncomputable def geoValidCC : List SV → RdM
  | [.slcc n len] => .read n fun o0 => (match intsFrom .i64 o0.c with
    | some (m0, g) => .ret ⟨[.slcc 0 len], [(0, ⟨false, 28, .ints .i64 m0 g, 0⟩)], .bool (geoValid len g), [], [], some (m0 = 2 * len ∧ len ≤ 1000000)⟩
    | none => .fail)
  | _ => .fail
theorem vc_geoValidC (len : Nat)  (g : Nat → Int) : runA G0 1 [(2, validL len g)] [] (codeOf Tryz.f24) (init Tryz.f24.ntmps [.slcc 0 len] [(0, ⟨false, 28, .ints .i64 (2 * len) g, 0⟩)] 1) (endK G0.E.T Tryz.f24.results.toList fun S v => postP 1 ⟨[.slcc 0 len], [(0, ⟨false, 28, .ints .i64 (2 * len) g, 0⟩)], .bool (geoValid len g), [], [], some (2 * len = 2 * len ∧ len ≤ 1000000)⟩ S v) = (
(∃ (i : Nat), (i ≤ len ∧ Go.Proofs.Tryz.Sx.geoValid i g = true) ∧ ((True ∧ len = len) ∧ (↑len : Int) = (↑len : Int) ∧ (0 : Int) = (↑i : Int) ∧ True) ∧ True ∧ ((2 : Nat) * len ≤ (2 : Nat) * len ∧ ∀ (i : Nat), i < (2 : Nat) * len → g i = g i) ∧ True) ∧
∀ (i : Nat), i ≤ len ∧ Go.Proofs.Tryz.Sx.geoValid i g = true → (decide ((↑i : Int) < (↑len : Int)) = true → (((0 : Int) ≤ (↑i : Int) ∧ (↑i : Int) < (↑len : Int)) ∧ (1 : Nat) ≤ (2 : Nat) * len) ∧ (0 : Nat) + Int.toNat (↑i : Int) * (2 : Nat) + (2 :
Nat) ≤ (2 : Nat) * len ∧ (decide (g ((0 : Nat) + Int.toNat (↑i : Int) * (2 : Nat)) < (-180 : Int)) = true → Go.Proofs.Tryz.Sx.geoValid len g = false ∧ True) ∧ (decide (g ((0 : Nat) + Int.toNat (↑i : Int) * (2 : Nat)) < (-180 : Int)) = false → (decide
((180 : Int) < g ((0 : Nat) + Int.toNat (↑i : Int) * (2 : Nat))) = true → Go.Proofs.Tryz.Sx.geoValid len g = false ∧ True) ∧ (decide ((180 : Int) < g ((0 : Nat) + Int.toNat (↑i : Int) * (2 : Nat))) = false → (decide (g ((0 : Nat) + Int.toNat (↑i :
Int) * (2 : Nat) + (1 : Nat)) < (-90 : Int)) = true → Go.Proofs.Tryz.Sx.geoValid len g = false ∧ True) ∧ (decide (g ((0 : Nat) + Int.toNat (↑i : Int) * (2 : Nat) + (1 : Nat)) < (-90 : Int)) = false → (decide ((90 : Int) < g ((0 : Nat) + Int.toNat (↑i
: Int) * (2 : Nat) + (1 : Nat))) = true → Go.Proofs.Tryz.Sx.geoValid len g = false ∧ True) ∧ (decide ((90 : Int) < g ((0 : Nat) + Int.toNat (↑i : Int) * (2 : Nat) + (1 : Nat))) = false → ∃ (i' : Nat), (i' ≤ len ∧ Go.Proofs.Tryz.Sx.geoValid i' g =
true) ∧ len - i' < len - i ∧ ((True ∧ len = len) ∧ (↑len : Int) = (↑len : Int) ∧ Go.IntKind.wrap .i64 ((↑i : Int) + (1 : Int)) = (↑i' : Int) ∧ True) ∧ True ∧ ((2 : Nat) * len ≤ (2 : Nat) * len ∧ ∀ (i : Nat), i < (2 : Nat) * len → g i = g i) ∧
True))))) ∧ (decide ((↑i : Int) < (↑len : Int)) = false → Go.Proofs.Tryz.Sx.geoValid len g = true ∧ True)) := by kernel_rfl
theorem geoValidC : ConOk Tryz.prog 24 (conR geoValidCC) := by
  refine con_of_vc g0 Tryz.func24 rfl (by kernel_rfl) fun args => ?_
  unfold geoValidCC
  split
  · rename_i n len
    intro o0
    show RdM.All _ (match intsFrom .i64 o0.c with | some (m, g) => _ | none => _) _
    split
    · rename_i m0 g hm0
      intro ho
      replace ho : m0 = 2 * len ∧ len ≤ 1000000 := ho
      obtain ⟨hsz0, ho⟩ := ho
      subst hsz0
      refine ⟨?_, _, _, (vc_geoValidC len g).mpr ?_⟩
      · refine okFlag_mk rfl ⟨?_, ⟨trivial, (contR_ints hm0).1, trivial⟩⟩
        simp [eqvRL, eqvR, kEq_self, fkEq_self, sgSig, fsts, nth, sameN_self]
      · refine ⟨⟨0, by simp [geoValid]⟩, fun i hi => ⟨fun h => ?_, fun h => ?_⟩⟩
        · have h := of_decide_eq_true h
          have e : 0 + (i : Int).toNat * 2 = 2 * i := by omega
          have hw : IntKind.i64.wrap ((i : Int) + 1) = ((i + 1 : Nat) : Int) := by rw [wrap64 (by omega) (by omega)]; omega
          rw [e]
          have bad : ¬ (-180 ≤ g (2 * i) ∧ g (2 * i) ≤ 180 ∧ -90 ≤ g (2 * i + 1) ∧ g (2 * i + 1) ≤ 90) → geoValid len g = false := fun hb => decide_eq_false fun ha => hb (ha i (by omega))
          refine ⟨by omega, by omega, fun h1 => ⟨bad fun hh => ?_, trivial⟩, fun h1 => ⟨fun h2 => ⟨bad fun hh => ?_, trivial⟩, fun h2 => ⟨fun h3 => ⟨bad fun hh => ?_, trivial⟩, fun h3 => ⟨fun h4 => ⟨bad fun hh => ?_, trivial⟩, fun h4 => ?_⟩⟩⟩⟩
          · have h1 := of_decide_eq_true h1; omega
          · have h2 := of_decide_eq_true h2; omega
          · have h3 := of_decide_eq_true h3; omega
          · have h4 := of_decide_eq_true h4; omega
          · have h1 := of_decide_eq_false h1
            have h2 := of_decide_eq_false h2
            have h3 := of_decide_eq_false h3
            have h4 := of_decide_eq_false h4
            refine ⟨i + 1, ⟨by omega, decide_eq_true fun j hj => ?_⟩, by omega, by simp [hw]⟩
            have : j < i ∨ j = i := by omega
            rcases this with hlt | rfl
            · exact of_decide_eq_true hi.2 j hlt
            · omega
        · have h := of_decide_eq_false h
          have : i = len := by omega
          subst this
          exact ⟨hi.2, trivial⟩
    · trivial
  · trivial

/-- The segments of points, whole numbers by fours. -/
def segI (g : Nat → Int) (len : Nat) (j : Nat) : Int := if j / 4 + 1 < len then g (2 * (j / 4) + j % 4) else if j % 4 < 2 then g (2 * (j / 4) + j % 4) else g (j % 4 - 2)
def segsL (len : Nat) (b : Bool) (g : Nat → Int) : Fam := ⟨Nat, fun i =>
  ⟨62, [(0, .slcc 0 len), (1, .bool b), (5, .slcc 1 i), (21, .int .i64 ((len : Int) - 1)), (22, .int .i64 i)], [(0, ⟨false, 28, .ints .i64 (2 * len) g, 0⟩), (1, ⟨true, 29, .ints .i64 (4 * i) (segI g len), 4⟩)], 2⟩, fun i => i + 1 ≤ len, fun i => len - i⟩
def segsK (len : Nat) (b : Bool) (g : Nat → Int) : Fam := ⟨Nat, fun _ =>
  ⟨62, [(0, .slcc 0 len), (1, .bool b), (5, .nils)], [(0, ⟨false, 28, .ints .i64 (2 * len) g, 0⟩)], 1⟩, fun _ => 2 ≤ len ∧ (b = true → 3 ≤ len), fun _ => 0⟩
def nsegs (len : Nat) (b : Bool) (g : Nat → Int) : Nat :=
  if len < 2 ∨ (b = true ∧ len < 3) then 0 else if b = true ∧ ¬ (g (2 * len - 2) = g 0 ∧ g (2 * len - 1) = g 1) then len else len - 1

theorem more_four {i : Nat} {f : Nat → Int} {x y z w : Int} (hx : x = f (4 * i)) (hy : y = f (4 * i + 1)) (hz : z = f (4 * i + 2)) (hw : w = f (4 * i + 3)) : ∀ j, j < 4 * (i + 1) → more (4 * i) f [x, y, z, w] 0 j = f j := by
  intro j hj
  subst hx hy hz hw
  unfold more
  split
  · rfl
  · have : j = 4 * i ∨ j = 4 * i + 1 ∨ j = 4 * i + 2 ∨ j = 4 * i + 3 := by omega
    rcases this with rfl | rfl | rfl | rfl <;> simp

theorem segI_lo {g : Nat → Int} {len i : Nat} (h : i + 1 < len) : segI g len (4 * i) = g (2 * i) ∧ segI g len (4 * i + 1) = g (2 * i + 1) ∧ segI g len (4 * i + 2) = g (2 * i + 2) ∧ segI g len (4 * i + 3) = g (2 * i + 3) := by
  have key : ∀ k, k < 4 → segI g len (4 * i + k) = g (2 * i + k) := by
    intro k hk
    have h1 : (4 * i + k) / 4 = i := by omega
    have h2 : (4 * i + k) % 4 = k := by omega
    unfold segI
    rw [h1, h2, if_pos h]
  exact ⟨key 0 (by decide), key 1 (by decide), key 2 (by decide), key 3 (by decide)⟩

theorem segI_hi {g : Nat → Int} {len i : Nat} (h : ¬ i + 1 < len) : segI g len (4 * i) = g (2 * i) ∧ segI g len (4 * i + 1) = g (2 * i + 1) ∧ segI g len (4 * i + 2) = g 0 ∧ segI g len (4 * i + 3) = g 1 := by
  have key : ∀ k, k < 4 → segI g len (4 * i + k) = if k < 2 then g (2 * i + k) else g (k - 2) := by
    intro k hk
    have h1 : (4 * i + k) / 4 = i := by omega
    have h2 : (4 * i + k) % 4 = k := by omega
    unfold segI
    rw [h1, h2, if_neg h]
  exact ⟨key 0 (by decide), key 1 (by decide), key 2 (by decide), key 3 (by decide)⟩

noncomputable def geoSegsC : List SV → RdM
  | [.slcc n len, bb] => .read n fun o0 => (match intsFrom .i64 o0.c with
    | some (m0, g) => (match bb.toB with
    | some b => .ret ⟨[.slcc 0 len, .bool b], [(0, ⟨false, 28, .ints .i64 m0 g, 0⟩)], .slcc 1 (nsegs len b g), [], [(1, ⟨true, 29, .ints .i64 (4 * nsegs len b g) (segI g len), 4⟩)], some (m0 = 2 * len ∧ len ≤ 1000000)⟩
    | none => .fail)
    | none => .fail)
  | _ => .fail
theorem vc_geoSegs (len : Nat) (b : Bool)  (g : Nat → Int) : runA GS 1 [(5, segsL len b g)] [(4, segsK len b g)] (codeOf Tryz.f31) (init Tryz.f31.ntmps [.slcc 0 len, .bool b] [(0, ⟨false, 28, .ints .i64 (2 * len) g, 0⟩)] 1) (endK GS.E.T Tryz.f31.results.toList fun S v => postP 1 ⟨[.slcc 0 len, .bool b], [(0, ⟨false, 28, .ints .i64 (2 * len) g, 0⟩)], .slcc 1 (nsegs len b g), [], [(1, ⟨true, 29, .ints .i64 (4 * nsegs len b g) (segI g len), 4⟩)], some (2 * len = 2 * len ∧ len ≤ 1000000)⟩ S v) = (
((decide ((↑len : Int) < (2 : Int)) = true → Go.Proofs.Tryz.Sx.nsegs len b g = (0 : Nat) ∧ True ∧ (4 : Nat) * Go.Proofs.Tryz.Sx.nsegs len b g = (0 : Nat) ∧ True) ∧ (decide ((↑len : Int) < (2 : Int)) = false → (b = true → (decide ((↑len : Int) < (3 :
Int)) = true → Go.Proofs.Tryz.Sx.nsegs len b g = (0 : Nat) ∧ True ∧ (4 : Nat) * Go.Proofs.Tryz.Sx.nsegs len b g = (0 : Nat) ∧ True) ∧ (decide ((↑len : Int) < (3 : Int)) = false → ∃ (j : Nat), ((2 : Nat) ≤ len ∧ (b = true → (3 : Nat) ≤ len)) ∧ ((True
∧ len = len) ∧ b = b ∧ True ∧ True) ∧ True ∧ ((2 : Nat) * len ≤ (2 : Nat) * len ∧ ∀ (i : Nat), i < (2 : Nat) * len → g i = g i) ∧ True)) ∧ (b = false → ∃ (j : Nat), ((2 : Nat) ≤ len ∧ (b = true → (3 : Nat) ≤ len)) ∧ ((True ∧ len = len) ∧ b = b ∧ True
∧ True) ∧ True ∧ ((2 : Nat) * len ≤ (2 : Nat) * len ∧ ∀ (i : Nat), i < (2 : Nat) * len → g i = g i) ∧ True))) ∧ ∀ (j : Nat), (2 : Nat) ≤ len ∧ (b = true → (3 : Nat) ≤ len) → (∃ (i : Nat), i + (1 : Nat) ≤ len ∧ ((True ∧ len = len) ∧ b = b ∧ i = (0 :
Nat) ∧ Go.IntKind.wrap .i64 ((↑len : Int) - (1 : Int)) = (↑len : Int) - (1 : Int) ∧ (0 : Int) = (↑i : Int) ∧ True) ∧ True ∧ ((2 : Nat) * len ≤ (2 : Nat) * len ∧ ∀ (i : Nat), i < (2 : Nat) * len → g i = g i) ∧ True ∧ (4 : Nat) * i = (0 : Nat) ∧ True)
∧ ∀ (i : Nat), i + (1 : Nat) ≤ len → (decide ((↑i : Int) < (↑len : Int) - (1 : Int)) = true → (((0 : Int) ≤ (↑i : Int) ∧ (↑i : Int) < (↑len : Int)) ∧ (1 : Nat) ≤ (2 : Nat) * len) ∧ (0 : Nat) + Int.toNat (↑i : Int) * (2 : Nat) + (2 : Nat) ≤ (2 : Nat)
* len ∧ (((0 : Int) ≤ Go.IntKind.wrap .i64 ((↑i : Int) + (1 : Int)) ∧ Go.IntKind.wrap .i64 ((↑i : Int) + (1 : Int)) < (↑len : Int)) ∧ (1 : Nat) ≤ (2 : Nat) * len) ∧ (0 : Nat) + Int.toNat (Go.IntKind.wrap .i64 ((↑i : Int) + (1 : Int))) * (2 : Nat) +
(2 : Nat) ≤ (2 : Nat) * len ∧ ((4 : Nat) * i = i * (4 : Nat) ∧ (i + (1 : Nat)) * (32 : Nat) ≤ (140737488355328 : Nat) ∧ i + (1 : Nat) ≤ (9223372036854775807 : Nat)) ∧ true = true ∧ ∃ (i' : Nat), i' + (1 : Nat) ≤ len ∧ len - i' < len - i ∧ ((True ∧
len = len) ∧ b = b ∧ (True ∧ i + (1 : Nat) = i') ∧ (↑len : Int) - (1 : Int) = (↑len : Int) - (1 : Int) ∧ Go.IntKind.wrap .i64 ((↑i : Int) + (1 : Int)) = (↑i' : Int) ∧ True) ∧ True ∧ ((2 : Nat) * len ≤ (2 : Nat) * len ∧ ∀ (i : Nat), i < (2 : Nat) *
len → g i = g i) ∧ True ∧ ((29 : Nat) = (29 : Nat) ∧ (4 : Nat) = (4 : Nat) ∧ (4 : Nat) * i' ≤ (4 : Nat) * i + List.length [g ((0 : Nat) + Int.toNat (↑i : Int) * (2 : Nat)), g ((0 : Nat) + Int.toNat (↑i : Int) * (2 : Nat) + (1 : Nat)), g ((0 : Nat) +
Int.toNat (Go.IntKind.wrap .i64 ((↑i : Int) + (1 : Int))) * (2 : Nat)), g ((0 : Nat) + Int.toNat (Go.IntKind.wrap .i64 ((↑i : Int) + (1 : Int))) * (2 : Nat) + (1 : Nat))] ∧ ∀ (i_1 : Nat), i_1 < (4 : Nat) * i' → Go.Sx.more ((4 : Nat) * i)
(Go.Proofs.Tryz.Sx.segI g len) [g ((0 : Nat) + Int.toNat (↑i : Int) * (2 : Nat)), g ((0 : Nat) + Int.toNat (↑i : Int) * (2 : Nat) + (1 : Nat)), g ((0 : Nat) + Int.toNat (Go.IntKind.wrap .i64 ((↑i : Int) + (1 : Int))) * (2 : Nat)), g ((0 : Nat) +
Int.toNat (Go.IntKind.wrap .i64 ((↑i : Int) + (1 : Int))) * (2 : Nat) + (1 : Nat))] (0 : Int) i_1 = Go.Proofs.Tryz.Sx.segI g len i_1) ∧ True) ∧ (decide ((↑i : Int) < (↑len : Int) - (1 : Int)) = false → (((0 : Int) ≤ Go.IntKind.wrap .i64 ((↑len : Int)
- (1 : Int)) ∧ Go.IntKind.wrap .i64 ((↑len : Int) - (1 : Int)) < (↑len : Int)) ∧ (1 : Nat) ≤ (2 : Nat) * len) ∧ (0 : Nat) + Int.toNat (Go.IntKind.wrap .i64 ((↑len : Int) - (1 : Int))) * (2 : Nat) + (2 : Nat) ≤ (2 : Nat) * len ∧ (b = true → b = true ∧
(((0 : Int) ≤ (0 : Int) ∧ (0 : Int) < (↑len : Int)) ∧ (1 : Nat) ≤ (2 : Nat) * len) ∧ (2 : Nat) ≤ (2 : Nat) * len ∧ true = true ∧ ((!(g ((0 : Nat) + Int.toNat (Go.IntKind.wrap .i64 ((↑len : Int) - (1 : Int))) * (2 : Nat)) == g (0 : Nat) && (g ((0 :
Nat) + Int.toNat (Go.IntKind.wrap .i64 ((↑len : Int) - (1 : Int))) * (2 : Nat) + (1 : Nat)) == g (1 : Nat) && true))) = true → (((0 : Int) ≤ (0 : Int) ∧ (0 : Int) < (↑len : Int)) ∧ (1 : Nat) ≤ (2 : Nat) * len) ∧ (2 : Nat) ≤ (2 : Nat) * len ∧ ((4 :
Nat) * i = i * (4 : Nat) ∧ (i + (1 : Nat)) * (32 : Nat) ≤ (140737488355328 : Nat) ∧ i + (1 : Nat) ≤ (9223372036854775807 : Nat)) ∧ true = true ∧ (True ∧ i + (1 : Nat) = Go.Proofs.Tryz.Sx.nsegs len b g) ∧ True ∧ ((29 : Nat) = (29 : Nat) ∧ (4 : Nat) =
(4 : Nat) ∧ (4 : Nat) * Go.Proofs.Tryz.Sx.nsegs len b g ≤ (4 : Nat) * i + List.length [g ((0 : Nat) + Int.toNat (Go.IntKind.wrap .i64 ((↑len : Int) - (1 : Int))) * (2 : Nat)), g ((0 : Nat) + Int.toNat (Go.IntKind.wrap .i64 ((↑len : Int) - (1 : Int)))
* (2 : Nat) + (1 : Nat)), g (0 : Nat), g (1 : Nat)] ∧ ∀ (i_1 : Nat), i_1 < (4 : Nat) * Go.Proofs.Tryz.Sx.nsegs len b g → Go.Sx.more ((4 : Nat) * i) (Go.Proofs.Tryz.Sx.segI g len) [g ((0 : Nat) + Int.toNat (Go.IntKind.wrap .i64 ((↑len : Int) - (1 :
Int))) * (2 : Nat)), g ((0 : Nat) + Int.toNat (Go.IntKind.wrap .i64 ((↑len : Int) - (1 : Int))) * (2 : Nat) + (1 : Nat)), g (0 : Nat), g (1 : Nat)] (0 : Int) i_1 = Go.Proofs.Tryz.Sx.segI g len i_1) ∧ True) ∧ ((!(g ((0 : Nat) + Int.toNat
(Go.IntKind.wrap .i64 ((↑len : Int) - (1 : Int))) * (2 : Nat)) == g (0 : Nat) && (g ((0 : Nat) + Int.toNat (Go.IntKind.wrap .i64 ((↑len : Int) - (1 : Int))) * (2 : Nat) + (1 : Nat)) == g (1 : Nat) && true))) = false → (True ∧ i =
Go.Proofs.Tryz.Sx.nsegs len b g) ∧ True ∧ ((29 : Nat) = (29 : Nat) ∧ (4 : Nat) = (4 : Nat) ∧ (4 : Nat) * Go.Proofs.Tryz.Sx.nsegs len b g ≤ (4 : Nat) * i ∧ ∀ (i : Nat), i < (4 : Nat) * Go.Proofs.Tryz.Sx.nsegs len b g → Go.Proofs.Tryz.Sx.segI g len i =
Go.Proofs.Tryz.Sx.segI g len i) ∧ True)) ∧ (b = false → b = false ∧ true = true ∧ (True ∧ i = Go.Proofs.Tryz.Sx.nsegs len b g) ∧ True ∧ ((29 : Nat) = (29 : Nat) ∧ (4 : Nat) = (4 : Nat) ∧ (4 : Nat) * Go.Proofs.Tryz.Sx.nsegs len b g ≤ (4 : Nat) * i ∧ ∀
(i : Nat), i < (4 : Nat) * Go.Proofs.Tryz.Sx.nsegs len b g → Go.Proofs.Tryz.Sx.segI g len i = Go.Proofs.Tryz.Sx.segI g len i) ∧ True))) := by kernel_rfl
theorem geoSegs : ConOk Tryz.prog 31 (conR geoSegsC) := by
  refine con_of_vc gS Tryz.func31 rfl (by kernel_rfl) fun args => ?_
  unfold geoSegsC
  split
  · rename_i n len bb
    intro o0
    show RdM.All _ (match intsFrom .i64 o0.c with | some (m, g) => _ | none => _) _
    split
    · rename_i m0 g hm0
      show RdM.All _ (match bb.toB with | some b => _ | none => _) _
      split
      · rename_i b hb
        intro ho
        replace ho : m0 = 2 * len ∧ len ≤ 1000000 := ho
        obtain ⟨hsz0, ho⟩ := ho
        subst hsz0
        refine ⟨?_, _, _, (vc_geoSegs len b g).mpr ?_⟩
        · refine okFlag_mk rfl ⟨?_, ⟨trivial, (contR_ints hm0).1, trivial⟩⟩
          simp [eqvRL, eqvR, kEq_self, fkEq_self, sgSig, fsts, nth, sameN_self, toB_eqvR hb]
        · have hwl : IntKind.i64.wrap ((len : Int) - 1) = (len : Int) - 1 := wrap64 (by omega) (by omega)
          refine ⟨⟨fun h => ?_, fun h => ⟨fun hb => ⟨fun h3 => ?_, fun h3 => ?_⟩, fun hb => ?_⟩⟩, fun _ hl => ⟨⟨0, by omega, by simp [hwl]⟩, fun i hi => ⟨fun h => ?_, fun h => ?_⟩⟩⟩
          · have h := of_decide_eq_true h
            have : nsegs len b g = 0 := if_pos (.inl (by omega))
            simp [this]
          · have h3 := of_decide_eq_true h3
            have : nsegs len b g = 0 := if_pos (.inr ⟨hb, by omega⟩)
            simp [this]
          · have h3 := of_decide_eq_false h3
            exact ⟨0, ⟨by omega, fun _ => by omega⟩, by simp⟩
          · have h := of_decide_eq_false h
            exact ⟨0, ⟨by omega, fun hh => by simp [hb] at hh⟩, by simp⟩
          · have h := of_decide_eq_true h
            have e : 0 + (i : Int).toNat * 2 = 2 * i := by omega
            have hw : IntKind.i64.wrap ((i : Int) + 1) = ((i + 1 : Nat) : Int) := by rw [wrap64 (by omega) (by omega)]; omega
            have e1 : 0 + ((i + 1 : Nat) : Int).toNat * 2 = 2 * i + 2 := by omega
            obtain ⟨s0, s1, s2, s3⟩ := segI_lo (g := g) (len := len) (i := i) (by omega)
            rw [hw, e, e1]
            refine ⟨by omega, by omega, by omega, by omega, by omega, rfl, i + 1, by omega, by omega, by simp, trivial, by simp, trivial, ⟨rfl, rfl, ?_, more_four s0.symm s1.symm s2.symm s3.symm⟩, trivial⟩
            show 4 * (i + 1) ≤ 4 * i + 4
            omega
          · have h := of_decide_eq_false h
            have hil : i = len - 1 := by omega
            subst hil
            have e : 0 + ((len : Int) - 1).toNat * 2 = 2 * len - 2 := by omega
            rw [hwl, e]
            have hn2 : ¬ (len < 2 ∨ b = true ∧ len < 3) := by
              intro hh
              rcases hh with hh | ⟨hh, hh'⟩
              · omega
              · have := hl.2 hh; omega
            have e1 : 2 * len - 2 + 1 = 2 * len - 1 := by omega
            rw [e1]
            refine ⟨by omega, by omega, fun hb => ⟨hb, by omega, by omega, rfl, fun hne => ?_, fun heq => ?_⟩, fun hb => ?_⟩
            · have hns : nsegs len b g = len := by
                unfold nsegs
                rw [if_neg hn2, if_pos ⟨hb, fun hh => by simp [hh.1, hh.2] at hne⟩]
              obtain ⟨s0, s1, s2, s3⟩ := segI_hi (g := g) (len := len) (i := len - 1) (by omega)
              have e2 : 2 * (len - 1) = 2 * len - 2 := by omega
              rw [e2] at s0 s1
              rw [e1] at s1
              rw [hns]
              refine ⟨by omega, by omega, by omega, rfl, ⟨trivial, by omega⟩, trivial, ⟨rfl, rfl, ?_, ?_⟩, trivial⟩
              · show 4 * len ≤ 4 * (len - 1) + 4
                omega
              · have := more_four s0.symm s1.symm s2.symm s3.symm
                rw [show len - 1 + 1 = len by omega] at this
                exact this
            · have hns : nsegs len b g = len - 1 := by
                unfold nsegs
                rw [if_neg hn2, if_neg]
                simp at heq
                exact fun hh => hh.2 ⟨heq.1, heq.2⟩
              simp [hns]
            · have hns : nsegs len b g = len - 1 := by
                unfold nsegs
                rw [if_neg hn2, if_neg]
                exact fun hh => by simp [hb] at hh
              simp [hns]
              exact hb
      · trivial
    · trivial
  · trivial

end Go.Proofs.Tryz.Sx
