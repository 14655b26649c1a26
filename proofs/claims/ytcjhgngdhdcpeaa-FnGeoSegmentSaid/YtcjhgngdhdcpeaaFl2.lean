/- Whole numbers as float64: order, sums, differences, products. -/
import Derived.Test.YtcjhgngdhdcpeaaFl1
namespace Go.Fl
open Ieee

theorem FI.order {x y : Nat} {a b : Int} (hx : FI x a) (hy : FI y b) : double.order x y = some (compare a b) := by
  rw [order_fin hx.1 hy.1, hx.2, hy.2, compare_scale]

theorem word_zero (s : Bool) : FI (double.word s 0) 0 := by
  obtain ⟨h1, h2⟩ := word_V s 0 (by decide)
  refine ⟨h1, ?_⟩
  rw [h2]; cases s <;> simp [rmag]

/-- The nearest word of a whole number, however it is written. -/
theorem nearest_int (neg : Bool) {mag k : Nat} {place : Int} (hp : -1074 ≤ place) (hk0 : k ≠ 0) (hk : k < 2 ^ 53) (h : mag * 2 ^ (place + 1074).toNat = k * 2 ^ U1) :
    FI (double.nearest neg mag place) (if neg then -(k : Int) else (k : Int)) := by
  have hkl : k.log2 ≤ 52 := by
    have := (Nat.log2_lt hk0).2 hk
    omega
  have hU : U1 = 1074 := rfl
  by_cases hs : place ≤ 0
  · have e : mag = k * 2 ^ (-place).toNat := by
      have e1 : U1 = (-place).toNat + (place + 1074).toNat := by rw [hU]; omega
      rw [e1, Nat.pow_add, ← Nat.mul_assoc] at h
      exact Nat.eq_of_mul_eq_mul_right (Nat.two_pow_pos _) h
    subst e
    obtain ⟨h1, h2⟩ := nearest_exact neg hk0 hk (sh := (-place).toNat) (place := place) (by omega) (by omega)
    refine ⟨h1, ?_⟩
    rw [h2]
    have e2 : (place + ((-place).toNat : Int) + 1074).toNat = U1 := by rw [hU]; omega
    rw [e2]
    generalize U1 = u
    rw [Int.natCast_mul, Int.natCast_pow]
    cases neg <;> simp [Int.neg_mul]
  · have e : k = mag * 2 ^ place.toNat := by
      have e1 : (place + 1074).toNat = place.toNat + U1 := by rw [hU]; omega
      rw [e1, Nat.pow_add, ← Nat.mul_assoc] at h
      exact (Nat.eq_of_mul_eq_mul_right (Nat.two_pow_pos _) h).symm
    have hm0 : mag ≠ 0 := fun e0 => hk0 (by rw [e, e0, Nat.zero_mul])
    have hle : mag ≤ k := by rw [e]; exact Nat.le_mul_of_pos_right _ (Nat.two_pow_pos _)
    have hlog : k.log2 = mag.log2 + place.toNat := by rw [e, log2_mul_pow hm0]
    obtain ⟨h1, h2⟩ := nearest_exact neg hm0 (Nat.lt_of_le_of_lt hle hk) (sh := 0) (place := place) (by omega) (by omega)
    rw [Nat.pow_zero, Nat.mul_one] at h1 h2
    refine ⟨h1, ?_⟩
    rw [h2]
    have e2 : (place + (0 : Nat) + 1074).toNat = place.toNat + U1 := by rw [hU]; omega
    rw [e2, Nat.pow_add, ← Nat.mul_assoc, ← e]
    generalize U1 = u
    rw [Int.natCast_mul, Int.natCast_pow]
    cases neg <;> simp [Int.neg_mul]

theorem natAbs_pow2 (k : Nat) : ((2 : Int) ^ k).natAbs = 2 ^ k := by rw [Int.natAbs_pow]; rfl

theorem signed_natAbs (s : Bool) (m u : Nat) : (signed s m u).natAbs = m * 2 ^ u := by
  rw [signed_mag]
  cases s
  · exact Int.natAbs_natCast _
  · exact (Int.natAbs_neg _).trans (Int.natAbs_natCast _)

theorem FI_sum {s t : Bool} {m n : Nat} {i j : Int} {a b : Int} (hi : -1074 ≤ i) (hj : -1074 ≤ j) (h1 : signed s m (i + 1074).toNat = a * 2 ^ U1) (h2 : signed t n (j + 1074).toNat = b * 2 ^ U1)
    (hab : (a + b).natAbs < 2 ^ 53) : ∃ d, Datum.sum (.number s m i) (.number t n j) = some d ∧ FI (double.write d) (a + b) := by
  refine ⟨_, rfl, ?_⟩
  simp only [Format.write]
  generalize htot : signed s m (i - min i j).toNat + signed t n (j - min i j).toNat = tot
  have e1 : (i + 1074).toNat = (i - min i j).toNat + (min i j + 1074).toNat := by omega
  have e2 : (j + 1074).toNat = (j - min i j).toNat + (min i j + 1074).toNat := by omega
  have hkey : tot * 2 ^ (min i j + 1074).toNat = (a + b) * 2 ^ U1 := by
    rw [Int.add_mul, ← h1, ← h2, e1, e2, signed_add, signed_add, ← Int.add_mul, htot]
  have hpos : ∀ k : Nat, (2 : Int) ^ k ≠ 0 := fun k => Int.ne_of_gt (pow_pos' k)
  by_cases h0 : tot = 0
  · have : a + b = 0 := by
      rw [h0, Int.zero_mul] at hkey
      rcases Int.mul_eq_zero.1 hkey.symm with h | h
      · exact h
      · exact absurd h (hpos _)
    rw [this]
    have hz : tot.natAbs = 0 := by rw [h0]; rfl
    unfold Format.nearest
    rw [if_pos hz]
    exact word_zero _
  · have hab0 : a + b ≠ 0 := by
      intro e
      rw [e, Int.zero_mul] at hkey
      rcases Int.mul_eq_zero.1 hkey with h | h
      · exact h0 h
      · exact absurd h (hpos _)
    have hk : tot.natAbs * 2 ^ (min i j + 1074).toNat = (a + b).natAbs * 2 ^ U1 := by
      have := congrArg Int.natAbs hkey
      rw [Int.natAbs_mul, Int.natAbs_mul, natAbs_pow2, natAbs_pow2] at this
      exact this
    rw [if_neg h0]
    have := nearest_int (decide (tot < 0)) (by omega) (by omega : (a + b).natAbs ≠ 0) hab hk
    have hsign : tot < 0 ↔ a + b < 0 := by
      have hp1 := pow_pos' (min i j + 1074).toNat
      have hp2 := pow_pos' U1
      constructor
      · intro h
        have h3 : tot * 2 ^ (min i j + 1074).toNat < 0 := Int.mul_neg_of_neg_of_pos h hp1
        rw [hkey] at h3
        rcases Int.lt_or_le (a + b) 0 with h4 | h4
        · exact h4
        · have := Int.mul_nonneg h4 (Int.le_of_lt hp2); omega
      · intro h
        have h3 : (a + b) * 2 ^ U1 < 0 := Int.mul_neg_of_neg_of_pos h hp2
        rw [← hkey] at h3
        rcases Int.lt_or_le tot 0 with h4 | h4
        · exact h4
        · have := Int.mul_nonneg h4 (Int.le_of_lt hp1); omega
    have hval : (if decide (tot < 0) then -((a + b).natAbs : Int) else ((a + b).natAbs : Int)) = a + b := by
      by_cases h : tot < 0
      · simp only [h, decide_true, if_true]; have := hsign.1 h; omega
      · simp only [h, decide_false, Bool.false_eq_true, if_false]; have := mt hsign.2 h; omega
    rw [hval] at this
    exact this

theorem FI_add {x y : Nat} {a b : Int} (hx : FI x a) (hy : FI y b) (h : (a + b).natAbs < 2 ^ 53) : ∃ r, double.add x y = some r ∧ FI r (a + b) := by
  obtain ⟨s, m, i, h1, h2, h3, _⟩ := read_fin hx.1
  obtain ⟨t, n, j, h4, h5, h6, _⟩ := read_fin hy.1
  rw [hx.2] at h3
  rw [hy.2] at h6
  obtain ⟨d, hd, hr⟩ := FI_sum h2 h5 h3 h6 h
  refine ⟨_, ?_, hr⟩
  unfold Format.add
  rw [h1, h4, hd]; rfl

theorem signed_not (s : Bool) (m u : Nat) : signed (!s) m u = -signed s m u := by
  unfold signed; cases s <;> simp

theorem FI_sub {x y : Nat} {a b : Int} (hx : FI x a) (hy : FI y b) (h : (a - b).natAbs < 2 ^ 53) : ∃ r, double.sub x y = some r ∧ FI r (a - b) := by
  obtain ⟨s, m, i, h1, h2, h3, _⟩ := read_fin hx.1
  obtain ⟨t, n, j, h4, h5, h6, _⟩ := read_fin hy.1
  rw [hx.2] at h3
  rw [hy.2] at h6
  have h7 : signed (!t) n (j + 1074).toNat = -b * 2 ^ U1 := by rw [signed_not, h6, Int.neg_mul]
  rw [Int.sub_eq_add_neg] at h ⊢
  obtain ⟨d, hd, hr⟩ := FI_sum h2 h5 h3 h7 h
  refine ⟨_, ?_, hr⟩
  unfold Format.sub
  rw [h1, h4]
  show Option.map double.write (Datum.sum (.number s m i) (.number (!t) n j)) = _
  rw [hd]; rfl

/-- A word of a whole number that is not 0 has no digits far behind the point. -/
theorem place_lo {m : Nat} {i : Int} {k : Nat} (hi : -1074 ≤ i) (hm : m < 2 ^ 53) (hk : k ≠ 0) (h : m * 2 ^ (i + 1074).toNat = k * 2 ^ U1) : -53 < i := by
  have hU : U1 = 1074 := rfl
  rcases Int.lt_or_le (-53) i with h1 | h1
  · exact h1
  · exfalso
    obtain ⟨c, hc⟩ : ∃ c : Nat, c = 1021 := ⟨_, rfl⟩
    have h2 : (i + 1074).toNat ≤ c := by omega
    have h3 : m * 2 ^ (i + 1074).toNat < 2 ^ 53 * 2 ^ c := by
      apply Nat.lt_of_lt_of_le (Nat.mul_lt_mul_of_pos_right hm (Nat.two_pow_pos _))
      exact Nat.mul_le_mul_left _ (Nat.pow_le_pow_right (by decide) h2)
    rw [← Nat.pow_add, h] at h3
    have h4 : 2 ^ U1 ≤ k * 2 ^ U1 := Nat.le_mul_of_pos_left _ (Nat.pos_of_ne_zero hk)
    have h5 : 53 + c = U1 := by rw [hU, hc]
    rw [h5] at h3
    exact absurd h3 (Nat.not_lt.2 h4)

theorem FI_mul {x y : Nat} {a b : Int} (hx : FI x a) (hy : FI y b) (h : (a * b).natAbs < 2 ^ 53) : ∃ r, double.mul x y = some r ∧ FI r (a * b) := by
  obtain ⟨s, m, i, h1, h2, h3, hm⟩ := read_fin hx.1
  obtain ⟨t, n, j, h4, h5, h6, hn⟩ := read_fin hy.1
  rw [hx.2] at h3
  rw [hy.2] at h6
  have hma : m * 2 ^ (i + 1074).toNat = a.natAbs * 2 ^ U1 := by
    have := congrArg Int.natAbs h3
    rw [signed_natAbs, Int.natAbs_mul, natAbs_pow2] at this
    exact this
  have hnb : n * 2 ^ (j + 1074).toNat = b.natAbs * 2 ^ U1 := by
    have := congrArg Int.natAbs h6
    rw [signed_natAbs, Int.natAbs_mul, natAbs_pow2] at this
    exact this
  refine ⟨double.nearest (s ^^ t) (m * n) (i + j), ?_, ?_⟩
  · unfold Format.mul
    rw [h1, h4]; rfl
  · by_cases h0 : m * n = 0
    · have : a * b = 0 := by
        rcases Nat.mul_eq_zero.1 h0 with h7 | h7
        · rw [h7, Nat.zero_mul] at hma
          rcases Nat.mul_eq_zero.1 hma.symm with h8 | h8
          · rw [Int.natAbs_eq_zero.1 h8, Int.zero_mul]
          · exact absurd h8 (Nat.ne_of_gt (Nat.two_pow_pos _))
        · rw [h7, Nat.zero_mul] at hnb
          rcases Nat.mul_eq_zero.1 hnb.symm with h8 | h8
          · rw [Int.natAbs_eq_zero.1 h8, Int.mul_zero]
          · exact absurd h8 (Nat.ne_of_gt (Nat.two_pow_pos _))
      rw [this]
      unfold Format.nearest
      rw [if_pos h0]
      exact word_zero _
    · have ha : a.natAbs ≠ 0 := by
        intro e
        rw [e, Nat.zero_mul] at hma
        rcases Nat.mul_eq_zero.1 hma with h8 | h8
        · exact h0 (by rw [h8, Nat.zero_mul])
        · exact absurd h8 (Nat.ne_of_gt (Nat.two_pow_pos _))
      have hb : b.natAbs ≠ 0 := by
        intro e
        rw [e, Nat.zero_mul] at hnb
        rcases Nat.mul_eq_zero.1 hnb with h8 | h8
        · exact h0 (by rw [h8, Nat.mul_zero])
        · exact absurd h8 (Nat.ne_of_gt (Nat.two_pow_pos _))
      have hi := place_lo h2 hm ha hma
      have hj := place_lo h5 hn hb hnb
      have hU : U1 = 1074 := rfl
      have hkey : m * n * 2 ^ (i + j + 1074).toNat = (a.natAbs * b.natAbs) * 2 ^ U1 := by
        have e1 : (i + 1074).toNat + (j + 1074).toNat = (i + j + 1074).toNat + U1 := by rw [hU]; omega
        have e2 : (m * n * 2 ^ (i + j + 1074).toNat) * 2 ^ U1 = (a.natAbs * b.natAbs * 2 ^ U1) * 2 ^ U1 := by
          calc (m * n * 2 ^ (i + j + 1074).toNat) * 2 ^ U1 = m * n * 2 ^ ((i + j + 1074).toNat + U1) := by rw [Nat.pow_add, Nat.mul_assoc]
            _ = m * n * 2 ^ ((i + 1074).toNat + (j + 1074).toNat) := by rw [e1]
            _ = (m * 2 ^ (i + 1074).toNat) * (n * 2 ^ (j + 1074).toNat) := by rw [Nat.pow_add]; ac_rfl
            _ = (a.natAbs * 2 ^ U1) * (b.natAbs * 2 ^ U1) := by rw [hma, hnb]
            _ = _ := by generalize (2 : Nat) ^ U1 = u; ac_rfl
        exact Nat.eq_of_mul_eq_mul_right (Nat.two_pow_pos _) e2
      have hk0 : a.natAbs * b.natAbs ≠ 0 := Nat.mul_ne_zero ha hb
      have hk : a.natAbs * b.natAbs < 2 ^ 53 := by rw [← Int.natAbs_mul]; exact h
      have := nearest_int (s ^^ t) (by omega) hk0 hk hkey
      have hsa : s = decide (a < 0) := by
        have hp := pow_pos' U1
        rw [signed_mag] at h3
        cases s
        · have : 0 ≤ a * 2 ^ U1 := by rw [← h3]; exact Int.natCast_nonneg _
          have : ¬ a < 0 := fun hneg => by have := Int.mul_neg_of_neg_of_pos hneg hp; omega
          exact (decide_eq_false this).symm
        · have h9 : a * 2 ^ U1 ≤ 0 := by rw [← h3]; exact Int.neg_nonpos_of_nonneg (Int.natCast_nonneg _)
          have : a < 0 := by
            rcases Int.lt_or_le a 0 with h10 | h10
            · exact h10
            · have : 0 < a := by omega
              have := Int.mul_pos this hp; omega
          exact (decide_eq_true this).symm
      have hsb : t = decide (b < 0) := by
        have hp := pow_pos' U1
        rw [signed_mag] at h6
        cases t
        · have : 0 ≤ b * 2 ^ U1 := by rw [← h6]; exact Int.natCast_nonneg _
          have : ¬ b < 0 := fun hneg => by have := Int.mul_neg_of_neg_of_pos hneg hp; omega
          exact (decide_eq_false this).symm
        · have h9 : b * 2 ^ U1 ≤ 0 := by rw [← h6]; exact Int.neg_nonpos_of_nonneg (Int.natCast_nonneg _)
          have : b < 0 := by
            rcases Int.lt_or_le b 0 with h10 | h10
            · exact h10
            · have : 0 < b := by omega
              have := Int.mul_pos this hp; omega
          exact (decide_eq_true this).symm
      have hval : (if (s ^^ t) then -((a.natAbs * b.natAbs : Nat) : Int) else ((a.natAbs * b.natAbs : Nat) : Int)) = a * b := by
        rw [hsa, hsb, Int.natCast_mul]
        by_cases hA : a < 0 <;> by_cases hB : b < 0
        · have e1 : (a.natAbs : Int) = -a := by omega
          have e2 : (b.natAbs : Int) = -b := by omega
          simp only [hA, hB, decide_true, Bool.xor_self, Bool.false_eq_true, if_false, e1, e2, Int.neg_mul_neg]
        · have e1 : (a.natAbs : Int) = -a := by omega
          have e2 : (b.natAbs : Int) = b := by omega
          simp only [hA, hB, decide_true, decide_false, Bool.xor_false, if_true, e1, e2, Int.neg_mul, Int.neg_neg]
        · have e1 : (a.natAbs : Int) = a := by omega
          have e2 : (b.natAbs : Int) = -b := by omega
          simp only [hA, hB, decide_true, decide_false, Bool.false_xor, if_true, e1, e2, Int.mul_neg, Int.neg_neg]
        · have e1 : (a.natAbs : Int) = a := by omega
          have e2 : (b.natAbs : Int) = b := by omega
          simp only [hA, hB, decide_false, Bool.xor_self, Bool.false_eq_true, if_false, e1, e2]
      rw [hval] at this
      exact this

end Go.Fl
