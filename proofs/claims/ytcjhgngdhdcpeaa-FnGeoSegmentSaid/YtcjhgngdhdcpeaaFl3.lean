/- Quotients of whole numbers as float64: correctly rounded; how two of them stand to each other. -/
import Derived.Test.YtcjhgngdhdcpeaaFl2
namespace Go.Fl
open Ieee

/-- Between two, the even one. -/
theorem cut_tie (neg : Bool) (n drop : Nat) (h : 2 * n = (2 * Toward.even.cut neg n drop + 1) * 2 ^ drop ∨ 2 * n + 2 ^ drop = 2 * Toward.even.cut neg n drop * 2 ^ drop) : Toward.even.cut neg n drop % 2 = 0 := by
  unfold Toward.cut at *
  simp only [Nat.shiftLeft_eq, Nat.one_mul] at *
  by_cases hd : drop ≤ n.log2 + 2
  · rw [Nat.min_eq_left hd] at *
    have hg : 0 < 2 ^ drop := Nat.two_pow_pos _
    have hdm := Nat.div_add_mod n (2 ^ drop)
    have hlt := Nat.mod_lt n hg
    generalize 2 ^ drop = g at *
    have hm : g * (n / g) = n / g * g := Nat.mul_comm _ _
    rw [hm] at hdm
    generalize n / g = q at *
    generalize n % g = r at *
    by_cases h1 : g < 2 * r
    · exfalso
      simp only [h1, decide_true, Bool.true_or, Bool.toNat_true] at h
      have e1 : (2 * (q + 1) + 1) * g = 2 * (q * g) + 3 * g := by rw [Nat.add_mul, Nat.mul_assoc, Nat.add_mul]; omega
      have e2 : 2 * (q + 1) * g = 2 * (q * g) + 2 * g := by rw [Nat.mul_assoc, Nat.add_mul]; omega
      omega
    · by_cases h2 : g = 2 * r
      · have e2 : (g == 2 * r) = true := by simp [h2]
        have e1 : (decide (g < 2 * r)) = false := by simp [h1]
        by_cases h3 : q % 2 = 1
        · have e3 : (q % 2 == 1) = true := by simp [h3]
          simp only [e1, e2, e3, Bool.false_or, Bool.true_and, Bool.toNat_true]; omega
        · have e3 : (q % 2 == 1) = false := by simp [h3]
          simp only [e1, e3, Bool.and_false, Bool.or_false, Bool.toNat_false]; omega
      · exfalso
        have e2 : (g == 2 * r) = false := by simp [h2]
        have e1 : (decide (g < 2 * r)) = false := by simp [h1]
        simp only [e1, e2, Bool.false_and, Bool.or_false, Bool.toNat_false, Nat.add_zero] at h
        have e3 : (2 * q + 1) * g = 2 * (q * g) + g := by rw [Nat.add_mul, Nat.mul_assoc]; omega
        have e4 : 2 * q * g = 2 * (q * g) := by rw [Nat.mul_assoc]
        omega
  · have hd' : n.log2 + 2 < drop := by omega
    rw [Nat.min_eq_right (by omega)]
    have h1 : n < 2 ^ (n.log2 + 1) := Nat.lt_log2_self
    have h2 : 2 ^ (n.log2 + 2) = 2 * 2 ^ (n.log2 + 1) := by rw [Nat.pow_succ]; omega
    have h4 : n / 2 ^ (n.log2 + 2) = 0 := Nat.div_eq_of_lt (by omega)
    have h5 : n % 2 ^ (n.log2 + 2) = n := Nat.mod_eq_of_lt (by omega)
    rw [h4, h5]
    have h6 : ¬ 2 ^ (n.log2 + 2) < 2 * n := by omega
    have h7 : (2 ^ (n.log2 + 2) == 2 * n) = false := by simp; omega
    simp only [h6, h7, decide_false, Bool.false_and, Bool.or_false, Bool.toNat_false, Nat.add_zero]

/-- The quotient A / B is kept * 2 ^ E least units (u to the one), correctly rounded. -/
structure DivSpec (kept E A B u : Nat) : Prop where
  lo : 2 ^ 52 ≤ kept
  hi : kept ≤ 2 ^ 53
  up : (2 * kept) * (2 ^ E * B) ≤ 2 * (A * u) + 2 ^ E * B
  dn : 2 * (A * u) ≤ (2 * kept) * (2 ^ E * B) + 2 ^ E * B
  bl : 2 ^ 52 * (2 ^ E * B) ≤ A * u
  bh : A * u < 2 ^ 53 * (2 ^ E * B)
  tie : 2 * (A * u) = (2 * kept) * (2 ^ E * B) + 2 ^ E * B ∨ 2 * (A * u) + 2 ^ E * B = (2 * kept) * (2 ^ E * B) → kept % 2 = 0

/-- The heart: of the quotient's digits. -/
theorem quot_core {m n more Q g kept : Nat} (hn : 0 < n) (hQ : Q = 2 * (m * 2 ^ more / n) + (m * 2 ^ more % n != 0).toNat) {D : Nat} (hD : 2 ≤ D) (hg : g = 2 ^ D) (h1 : 2 * (kept * g) ≤ 2 * Q + g) (h2 : 2 * Q ≤ 2 * (kept * g) + g)
    (ht : 2 * Q = (2 * kept + 1) * g ∨ 2 * Q + g = 2 * kept * g → kept % 2 = 0) (hl : 2 ^ 52 * g ≤ Q) (hh : Q < 2 ^ 53 * g) :
    (2 * kept) * (g * n) ≤ 2 * (2 * (m * 2 ^ more)) + g * n ∧ 2 * (2 * (m * 2 ^ more)) ≤ (2 * kept) * (g * n) + g * n ∧ 2 ^ 52 * (g * n) ≤ 2 * (m * 2 ^ more) ∧ 2 * (m * 2 ^ more) < 2 ^ 53 * (g * n) ∧
    (2 * (2 * (m * 2 ^ more)) = (2 * kept) * (g * n) + g * n ∨ 2 * (2 * (m * 2 ^ more)) + g * n = (2 * kept) * (g * n) → kept % 2 = 0) := by
  generalize hdv : m * 2 ^ more = dv at *
  have hdm := Nat.div_add_mod dv n
  have hlt := Nat.mod_lt dv hn
  generalize dv / n = q at *
  generalize dv % n = r at *
  obtain ⟨g4, hg4⟩ : ∃ g4, g = 4 * g4 := ⟨2 ^ (D - 2), by rw [hg]; have e : 2 ^ D = 2 ^ (2 + (D - 2)) := (by congr 1; omega); rw [e, Nat.pow_add]⟩
  by_cases hr : r = 0
  · -- nothing is left over
    have hQ' : Q = 2 * q := by rw [hQ, hr]; rfl
    have hY : 2 * dv = Q * n := by rw [hQ', Nat.mul_assoc, Nat.mul_comm q n]; omega
    rw [hY]
    refine ⟨?_, ?_, ?_, ?_, ?_⟩
    · have := Nat.mul_le_mul_right n h1
      calc 2 * kept * (g * n) = 2 * (kept * g) * n := by ac_rfl
        _ ≤ (2 * Q + g) * n := this
        _ = _ := by rw [Nat.add_mul, Nat.mul_assoc]
    · have := Nat.mul_le_mul_right n h2
      calc 2 * (Q * n) = 2 * Q * n := by ac_rfl
        _ ≤ (2 * (kept * g) + g) * n := this
        _ = _ := by rw [Nat.add_mul]; congr 1; ac_rfl
    · calc 2 ^ 52 * (g * n) = 2 ^ 52 * g * n := by ac_rfl
        _ ≤ Q * n := Nat.mul_le_mul_right n hl
    · calc Q * n < 2 ^ 53 * g * n := Nat.mul_lt_mul_of_pos_right hh hn
        _ = _ := by ac_rfl
    · rintro (h | h)
      · refine ht (.inl (Nat.eq_of_mul_eq_mul_right hn ?_))
        calc 2 * Q * n = 2 * (Q * n) := by ac_rfl
          _ = _ := h
          _ = _ := by rw [Nat.add_mul, Nat.one_mul, Nat.add_mul]; congr 1; ac_rfl
      · refine ht (.inr (Nat.eq_of_mul_eq_mul_right hn ?_))
        calc (2 * Q + g) * n = 2 * (Q * n) + g * n := by rw [Nat.add_mul]; congr 1; ac_rfl
          _ = _ := h
          _ = _ := by ac_rfl
  · have hQ' : Q = 2 * q + 1 := by
      rw [hQ]
      have : (r != 0) = true := by simp [hr]
      rw [this]; rfl
    have hY1 : (Q - 1) * n < 2 * dv := by
      rw [hQ', Nat.add_sub_cancel, Nat.mul_assoc, Nat.mul_comm q n]; omega
    have hY2 : 2 * dv < (Q + 1) * n := by
      have : (Q + 1) * n = 2 * (n * q) + 2 * n := by rw [hQ', Nat.add_mul, Nat.add_mul, Nat.mul_assoc, Nat.mul_comm q n]; omega
      omega
    have hQ1 : 1 ≤ Q := by omega
    have f1 : 2 * (kept * g) ≤ 2 * (Q - 1) + g := by
      have e1 : kept * g = 4 * (kept * g4) := by rw [hg4]; ac_rfl
      omega
    have f2 : 2 * (Q + 1) ≤ 2 * (kept * g) + g := by
      have e1 : kept * g = 4 * (kept * g4) := by rw [hg4]; ac_rfl
      omega
    have s1 : 2 * kept * (g * n) < 2 * (2 * dv) + g * n := by
      calc 2 * kept * (g * n) = 2 * (kept * g) * n := by ac_rfl
        _ ≤ (2 * (Q - 1) + g) * n := Nat.mul_le_mul_right n f1
        _ = 2 * ((Q - 1) * n) + g * n := by rw [Nat.add_mul, Nat.mul_assoc]
        _ < _ := by omega
    have s2 : 2 * (2 * dv) < 2 * kept * (g * n) + g * n := by
      calc 2 * (2 * dv) < 2 * ((Q + 1) * n) := by omega
        _ = 2 * (Q + 1) * n := by ac_rfl
        _ ≤ (2 * (kept * g) + g) * n := Nat.mul_le_mul_right n f2
        _ = _ := by rw [Nat.add_mul]; congr 1; ac_rfl
    refine ⟨Nat.le_of_lt s1, Nat.le_of_lt s2, ?_, ?_, ?_⟩
    · have f3 : 2 ^ 52 * g ≤ Q - 1 := by
        have e1 : 2 ^ 52 * g = 4 * (2 ^ 52 * g4) := by rw [hg4]; ac_rfl
        generalize 2 ^ 52 * g4 = z at *
        omega
      calc 2 ^ 52 * (g * n) = 2 ^ 52 * g * n := by ac_rfl
        _ ≤ (Q - 1) * n := Nat.mul_le_mul_right n f3
        _ ≤ _ := Nat.le_of_lt hY1
    · have f3 : Q + 1 ≤ 2 ^ 53 * g := by omega
      calc 2 * dv < (Q + 1) * n := hY2
        _ ≤ 2 ^ 53 * g * n := Nat.mul_le_mul_right n f3
        _ = _ := by ac_rfl
    · rintro (h | h)
      · exact absurd h (Nat.ne_of_lt s2)
      · exact absurd h (Nat.ne_of_gt s1)

theorem log2_bounds {n : Nat} (h : n ≠ 0) : 2 ^ n.log2 ≤ n ∧ n < 2 ^ (n.log2 + 1) := ⟨Nat.log2_self_le h, Nat.lt_log2_self⟩

/-- The quotient of two whole numbers. -/
theorem FI_div {x y : Nat} {a b : Int} (hx : FI x a) (hy : FI y b) (ha : a ≠ 0) (hb : b ≠ 0) (hb2 : b.natAbs < 2 ^ 53) (ha2 : a.natAbs < 2 ^ 53) :
    ∃ r, double.div x y = some r ∧ Fin r ∧ ∃ kept E, DivSpec kept E a.natAbs b.natAbs (2 ^ U1) ∧ V r = if (decide (a < 0) ^^ decide (b < 0)) then -((kept * 2 ^ E : Nat) : Int) else ((kept * 2 ^ E : Nat) : Int) := by
  obtain ⟨s, m, i, h1, h2, h3, hm⟩ := read_fin hx.1
  obtain ⟨t, n, j, h4, h5, h6, hn⟩ := read_fin hy.1
  rw [hx.2] at h3
  rw [hy.2] at h6
  have hma : m * 2 ^ (i + 1074).toNat = a.natAbs * 2 ^ U1 := by
    have := congrArg Int.natAbs h3
    rw [signed_natAbs, Int.natAbs_mul, natAbs_pow2] at this
    exact this
  have hnb : n * 2 ^ (j + 1074).toNat = b.natAbs * 2 ^ U1 := by
    have := congrArg Int.natAbs h6
    rw [signed_natAbs, Int.natAbs_mul, natAbs_pow2] at this
    exact this
  have ha' : a.natAbs ≠ 0 := by omega
  have hb' : b.natAbs ≠ 0 := by omega
  have hpos : ∀ k : Nat, (2 : Nat) ^ k ≠ 0 := fun k => Nat.ne_of_gt (Nat.two_pow_pos _)
  have hm0 : m ≠ 0 := fun e => by
    rw [e, Nat.zero_mul] at hma
    rcases Nat.mul_eq_zero.1 hma.symm with h | h
    · exact ha' h
    · exact hpos _ h
  have hn0 : n ≠ 0 := fun e => by
    rw [e, Nat.zero_mul] at hnb
    rcases Nat.mul_eq_zero.1 hnb.symm with h | h
    · exact hb' h
    · exact hpos _ h
  have hi := place_lo h2 hm ha' hma
  have hj := place_lo h5 hn hb' hnb
  have hU : U1 = 1074 := rfl
  have hj2 : j < 53 := by
    rcases Int.lt_or_le j 53 with h | h
    · exact h
    · exfalso
      obtain ⟨c, hc⟩ : ∃ c : Nat, c = 53 := ⟨_, rfl⟩
      have e1 : (j + 1074).toNat = U1 + (j.toNat - c + c) := by rw [hU]; omega
      rw [e1, Nat.pow_add, Nat.pow_add, Nat.mul_comm (2 ^ U1), ← Nat.mul_assoc] at hnb
      have e2 := Nat.eq_of_mul_eq_mul_right (Nat.two_pow_pos _) hnb
      have e3 : 2 ^ c ≤ b.natAbs := by
        rw [← e2, ← Nat.mul_assoc]
        exact Nat.le_mul_of_pos_left _ (Nat.mul_pos (Nat.pos_of_ne_zero hn0) (Nat.two_pow_pos _))
      rw [hc] at e3
      omega
  have hmi : i < 53 := by
    rcases Int.lt_or_le i 53 with h | h
    · exact h
    · exfalso
      obtain ⟨c, hc⟩ : ∃ c : Nat, c = 53 := ⟨_, rfl⟩
      have e1 : (i + 1074).toNat = U1 + (i.toNat - c + c) := by rw [hU]; omega
      rw [e1, Nat.pow_add, Nat.pow_add, Nat.mul_comm (2 ^ U1), ← Nat.mul_assoc] at hma
      have e2 := Nat.eq_of_mul_eq_mul_right (Nat.two_pow_pos _) hma
      have e3 : 2 ^ c ≤ a.natAbs := by
        rw [← e2, ← Nat.mul_assoc]
        exact Nat.le_mul_of_pos_left _ (Nat.mul_pos (Nat.pos_of_ne_zero hm0) (Nat.two_pow_pos _))
      rw [hc] at e3
      omega
  have hlm : m.log2 ≤ 52 := by
    have := (Nat.log2_lt hm0).2 hm
    omega
  have hln : n.log2 ≤ 52 := by
    have := (Nat.log2_lt hn0).2 hn
    omega
  have hmore : (52 + 2) + n.log2 - m.log2 = 54 + n.log2 - m.log2 := rfl
  generalize hmo : 54 + n.log2 - m.log2 = more at *
  let Q := 2 * (m * 2 ^ more / n) + (m * 2 ^ more % n != 0).toNat
  have hQdef : Q = 2 * (m * 2 ^ more / n) + (m * 2 ^ more % n != 0).toNat := rfl
  clear_value Q
  have hdiv : double.div x y = some (double.nearest (s ^^ t) Q (i - j - more - 1)) := by
    unfold Format.div
    rw [h1, h4]
    simp only [Datum.quotient, hn0, if_false, frb, Option.map_some, Format.write]
    rw [show (52 + 2) + n.log2 - m.log2 = more from hmo, Nat.shiftLeft_eq, hQdef]
  -- the quotient has enough digits
  have hq53 : 2 ^ 53 ≤ m * 2 ^ more / n := by
    rw [Nat.le_div_iff_mul_le (Nat.pos_of_ne_zero hn0)]
    obtain ⟨l1, _⟩ := log2_bounds hm0
    obtain ⟨_, l4⟩ := log2_bounds hn0
    have e1 : m.log2 + more = 53 + (n.log2 + 1) := by omega
    calc 2 ^ 53 * n ≤ 2 ^ 53 * 2 ^ (n.log2 + 1) := Nat.mul_le_mul_left _ (Nat.le_of_lt l4)
      _ = 2 ^ m.log2 * 2 ^ more := by rw [← Nat.pow_add, ← Nat.pow_add, e1]
      _ ≤ m * 2 ^ more := Nat.mul_le_mul_right _ l1
  have hQ54 : 2 ^ 54 ≤ Q := by rw [hQdef]; omega
  have hQ0 : Q ≠ 0 := by omega
  obtain ⟨q1, q2⟩ := log2_bounds hQ0
  have hL54 : 54 ≤ Q.log2 := by rw [Nat.le_log2 hQ0]; exact hQ54
  have hLup : Q.log2 ≤ 161 := by
    have hQup : Q < 2 ^ 162 := by
      have : m * 2 ^ more / n ≤ m * 2 ^ more := Nat.div_le_self _ _
      have h7 : m * 2 ^ more < 2 ^ 53 * 2 ^ 106 := by
        apply Nat.lt_of_lt_of_le (Nat.mul_lt_mul_of_pos_right hm (Nat.two_pow_pos _))
        exact Nat.mul_le_mul_left _ (Nat.pow_le_pow_right (by decide) (by omega))
      have h8 : (m * 2 ^ more % n != 0).toNat ≤ 1 := Bool.toNat_le _
      have h9 : (2 : Nat) ^ 53 * 2 ^ 106 = 2 ^ 159 := by decide
      have h10 : (2 : Nat) ^ 162 = 8 * 2 ^ 159 := by decide
      rw [h9] at h7
      rw [hQdef, h10]
      generalize (2 : Nat) ^ 159 = z at *
      omega
    have := (Nat.log2_lt hQ0).2 hQup
    omega
  generalize hpl : i - j - more - 1 = place at *
  have hplb : -300 ≤ place ∧ place ≤ 1100 := by omega
  have hlast : last Q place = place + Q.log2 - 52 := by unfold last; omega
  obtain ⟨n1, n2⟩ := nearest_V (s ^^ t) hQ0 (place := place) (by omega)
  obtain ⟨k1, k2⟩ := kept_bounds (s ^^ t) hQ0 place
  have hk2 : 2 ^ 52 ≤ keptOf (s ^^ t) Q place := k2.resolve_left (by rw [hlast]; omega)
  have hD : (last Q place - place).toNat = Q.log2 - 52 := by rw [hlast]; omega
  have hz : (place - last Q place).toNat = 0 := by rw [hlast]; omega
  have hkd : keptOf (s ^^ t) Q place = Toward.even.cut (s ^^ t) Q (Q.log2 - 52) := by
    unfold keptOf
    rw [hD, hz, Nat.shiftLeft_eq, Nat.pow_zero, Nat.mul_one]
  obtain ⟨c1, c2⟩ := cut_err (s ^^ t) Q (Q.log2 - 52)
  have c3 := cut_tie (s ^^ t) Q (Q.log2 - 52)
  rw [← hkd] at c1 c2 c3
  generalize keptOf (s ^^ t) Q place = kept at *
  have hlg : Q.log2 = 52 + (Q.log2 - 52) := by omega
  have hl : 2 ^ 52 * 2 ^ (Q.log2 - 52) ≤ Q := by rw [← Nat.pow_add, ← hlg]; exact q1
  have hh : Q < 2 ^ 53 * 2 ^ (Q.log2 - 52) := by rw [← Nat.pow_add, show 53 + (Q.log2 - 52) = Q.log2 + 1 by omega]; exact q2
  obtain ⟨r1, r2, r3, r4, r5⟩ := quot_core (Nat.pos_of_ne_zero hn0) hQdef (D := Q.log2 - 52) (by omega) rfl c1 c2 c3 hl hh
  -- the same, in least units
  have hE : (last Q place + 1074).toNat = (Q.log2 - 52) + (place + 1074).toNat := by rw [hlast]; omega
  have hSc1 : 2 ^ (Q.log2 - 52) * n * 2 ^ ((place + 1074).toNat + (j + 1074).toNat) = 2 ^ (last Q place + 1074).toNat * b.natAbs * 2 ^ U1 := by
    rw [hE, Nat.pow_add, Nat.pow_add, Nat.mul_assoc (2 ^ _ * 2 ^ _), ← hnb]; ac_rfl
  have hSc2 : 2 * (m * 2 ^ more) * 2 ^ ((place + 1074).toNat + (j + 1074).toNat) = a.natAbs * 2 ^ U1 * 2 ^ U1 := by
    have e1 : 1 + more + ((place + 1074).toNat + (j + 1074).toNat) = (i + 1074).toNat + U1 := by rw [hU]; omega
    calc 2 * (m * 2 ^ more) * 2 ^ ((place + 1074).toNat + (j + 1074).toNat) = m * (2 ^ 1 * 2 ^ more * 2 ^ ((place + 1074).toNat + (j + 1074).toNat)) := by rw [Nat.pow_one]; ac_rfl
      _ = m * 2 ^ (1 + more + ((place + 1074).toNat + (j + 1074).toNat)) := by rw [← Nat.pow_add, ← Nat.pow_add]
      _ = m * 2 ^ (i + 1074).toNat * 2 ^ U1 := by rw [e1, Nat.pow_add, Nat.mul_assoc]
      _ = _ := by rw [hma]
  refine ⟨_, hdiv, n1, kept, (last Q place + 1074).toNat, ?_, ?_⟩
  · generalize (last Q place + 1074).toNat = E at *
    generalize 2 ^ ((place + 1074).toNat + (j + 1074).toNat) = Sc at *
    generalize hY : 2 * (m * 2 ^ more) = Y at *
    generalize hG : 2 ^ (Q.log2 - 52) * n = G at *
    have hu : 0 < 2 ^ U1 := Nat.two_pow_pos _
    generalize 2 ^ U1 = u at *
    generalize hP : 2 ^ E * b.natAbs = Pw at *
    have sc : ∀ {p q : Nat}, p * Sc = q * u → True := fun _ => trivial
    have g1 : ∀ k, k * (Pw * u) = k * G * Sc := fun k => by rw [← hSc1]; ac_rfl
    have g2 : ∀ k, k * (a.natAbs * u * u) = k * Y * Sc := fun k => by rw [← hSc2]; ac_rfl
    have hle : ∀ {p q : Nat}, p * u ≤ q * u → p ≤ q := fun h => Nat.le_of_mul_le_mul_right h hu
    refine ⟨hk2, k1, ?_, ?_, ?_, ?_, ?_⟩ <;> rw [hP]
    · apply hle
      calc 2 * kept * Pw * u = 2 * kept * G * Sc := by rw [Nat.mul_assoc (2 * kept), g1]
        _ ≤ (2 * Y + G) * Sc := Nat.mul_le_mul_right _ r1
        _ = 2 * (a.natAbs * u * u) + 1 * (Pw * u) := by rw [g1, g2, Nat.add_mul, Nat.one_mul]
        _ = (2 * (a.natAbs * u) + Pw) * u := by rw [Nat.add_mul, Nat.one_mul]; congr 1; ac_rfl
    · apply hle
      calc 2 * (a.natAbs * u) * u = 2 * (a.natAbs * u * u) := by ac_rfl
        _ = 2 * Y * Sc := by rw [g2]
        _ ≤ (2 * kept * G + G) * Sc := Nat.mul_le_mul_right _ r2
        _ = 2 * kept * (Pw * u) + 1 * (Pw * u) := by rw [g1, g1, Nat.add_mul, Nat.one_mul]
        _ = _ := by rw [Nat.add_mul, Nat.one_mul]; ac_rfl
    · apply hle
      calc 2 ^ 52 * Pw * u = 2 ^ 52 * G * Sc := by rw [Nat.mul_assoc, g1]
        _ ≤ Y * Sc := Nat.mul_le_mul_right _ r3
        _ = 1 * (a.natAbs * u * u) := by rw [g2, Nat.one_mul]
        _ = _ := by rw [Nat.one_mul]
    · have hSc0 : 0 < Sc := by
        rcases Nat.eq_zero_or_pos Sc with h | h
        · exfalso
          rw [h, Nat.mul_zero] at hSc2
          have h9 : 0 < a.natAbs * u * u := Nat.mul_pos (Nat.mul_pos (by omega) hu) hu
          omega
        · exact h
      apply Nat.lt_of_mul_lt_mul_right (a := u)
      calc a.natAbs * u * u = Y * Sc := hSc2.symm
        _ < 2 ^ 53 * G * Sc := Nat.mul_lt_mul_of_pos_right r4 hSc0
        _ = 2 ^ 53 * (Pw * u) := by rw [g1]
        _ = _ := by ac_rfl
    · have hSc0 : 0 < Sc := by
        rcases Nat.eq_zero_or_pos Sc with h | h
        · exfalso
          rw [h, Nat.mul_zero] at hSc2
          have h9 : 0 < a.natAbs * u * u := Nat.mul_pos (Nat.mul_pos (by omega) hu) hu
          omega
        · exact h
      rintro (h | h)
      · refine r5 (.inl (Nat.eq_of_mul_eq_mul_right hSc0 ?_))
        calc 2 * Y * Sc = 2 * (a.natAbs * u * u) := (g2 2).symm
          _ = 2 * (a.natAbs * u) * u := by ac_rfl
          _ = (2 * kept * Pw + Pw) * u := by rw [h]
          _ = 2 * kept * (Pw * u) + 1 * (Pw * u) := by rw [Nat.add_mul, Nat.one_mul]; ac_rfl
          _ = 2 * kept * G * Sc + 1 * G * Sc := by rw [g1, g1]
          _ = _ := by rw [Nat.add_mul, Nat.one_mul]
      · refine r5 (.inr (Nat.eq_of_mul_eq_mul_right hSc0 ?_))
        calc (2 * Y + G) * Sc = 2 * (a.natAbs * u * u) + 1 * (Pw * u) := by rw [g1, g2, Nat.add_mul, Nat.one_mul]
          _ = (2 * (a.natAbs * u) + Pw) * u := by rw [Nat.add_mul, Nat.one_mul]; ac_rfl
          _ = 2 * kept * Pw * u := by rw [h]
          _ = 2 * kept * (Pw * u) := by ac_rfl
          _ = _ := g1 _
  · rw [n2]
    have sgn : ∀ {s : Bool} {m k : Nat} {a : Int}, a ≠ 0 → signed s m k = a * 2 ^ U1 → s = decide (a < 0) := by
      intro s m k a ha h
      have hp := pow_pos' U1
      rw [signed_mag] at h
      cases s
      · have h8 : 0 ≤ a * 2 ^ U1 := by rw [← h]; exact Int.natCast_nonneg _
        have : ¬ a < 0 := fun hneg => by have := Int.mul_neg_of_neg_of_pos hneg hp; omega
        exact (decide_eq_false this).symm
      · have h9 : a * 2 ^ U1 ≤ 0 := by rw [← h]; exact Int.neg_nonpos_of_nonneg (Int.natCast_nonneg _)
        have : a < 0 := by
          rcases Int.lt_or_le a 0 with h10 | h10
          · exact h10
          · have : 0 < a := by omega
            have := Int.mul_pos this hp; omega
        exact (decide_eq_true this).symm
    rw [sgn ha h3, sgn hb h6]

end Go.Fl
