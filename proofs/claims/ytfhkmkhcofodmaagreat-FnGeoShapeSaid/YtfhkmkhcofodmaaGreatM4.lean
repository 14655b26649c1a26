/- Parts of a proof, in order: what each says stands at its head. No conditions. -/
import Derived.ChangeKeysEq
import Derived.DeepKeys
import Derived.KernelRfl
import Derived.Test.YtfhkmkhcofodmaaGreatM3
import Derived.Test.YtfhkmkhcofodmaaGreatM1
import Derived.Test.YtfhkmkhcofodmaaGreatM2
/- Quotients of whole numbers as float64: correctly rounded; how two of them stand to each other. -/
namespace Go.Fl
open Ieee

/-- Between two, the even one. -/
theorem cut_tie (neg : Bool) (n drop : Nat) (h : 2 * n = (2 * Toward.even.cut neg n drop + 1) * 2 ^ drop ∨ 2 * n + 2 ^ drop = 2 * Toward.even.cut neg n drop * 2 ^ drop) : Toward.even.cut neg n drop % 2 = 0 := by
  unfold Toward.cut at *
  simp only [Nat.shiftLeft_eq, Nat.one_mul] at *
  by_cases hd : drop ≤ n.log2 + 2
  · rw [Nat.min_eq_left hd] at *
    have hg : 0 < 2 ^ drop := Nat.two_pow_pos _
    have hdm := Nat.div_add_mod n (2 ^ drop)
    have hlt := Nat.mod_lt n hg
    generalize 2 ^ drop = g at *
    have hm : g * (n / g) = n / g * g := Nat.mul_comm _ _
    rw [hm] at hdm
    generalize n / g = q at *
    generalize n % g = r at *
    by_cases h1 : g < 2 * r
    · exfalso
      simp only [h1, decide_true, Bool.true_or, Bool.toNat_true] at h
      have e1 : (2 * (q + 1) + 1) * g = 2 * (q * g) + 3 * g := by rw [Nat.add_mul, Nat.mul_assoc, Nat.add_mul]; omega
      have e2 : 2 * (q + 1) * g = 2 * (q * g) + 2 * g := by rw [Nat.mul_assoc, Nat.add_mul]; omega
      omega
    · by_cases h2 : g = 2 * r
      · have e2 : (g == 2 * r) = true := by simp [h2]
        have e1 : (decide (g < 2 * r)) = false := by simp [h1]
        by_cases h3 : q % 2 = 1
        · have e3 : (q % 2 == 1) = true := by simp [h3]
          simp only [e1, e2, e3, Bool.false_or, Bool.true_and, Bool.toNat_true]; omega
        · have e3 : (q % 2 == 1) = false := by simp [h3]
          simp only [e1, e3, Bool.and_false, Bool.or_false, Bool.toNat_false]; omega
      · exfalso
        have e2 : (g == 2 * r) = false := by simp [h2]
        have e1 : (decide (g < 2 * r)) = false := by simp [h1]
        simp only [e1, e2, Bool.false_and, Bool.or_false, Bool.toNat_false, Nat.add_zero] at h
        have e3 : (2 * q + 1) * g = 2 * (q * g) + g := by rw [Nat.add_mul, Nat.mul_assoc]; omega
        have e4 : 2 * q * g = 2 * (q * g) := by rw [Nat.mul_assoc]
        omega
  · have hd' : n.log2 + 2 < drop := by omega
    rw [Nat.min_eq_right (by omega)]
    have h1 : n < 2 ^ (n.log2 + 1) := Nat.lt_log2_self
    have h2 : 2 ^ (n.log2 + 2) = 2 * 2 ^ (n.log2 + 1) := by rw [Nat.pow_succ]; omega
    have h4 : n / 2 ^ (n.log2 + 2) = 0 := Nat.div_eq_of_lt (by omega)
    have h5 : n % 2 ^ (n.log2 + 2) = n := Nat.mod_eq_of_lt (by omega)
    rw [h4, h5]
    have h6 : ¬ 2 ^ (n.log2 + 2) < 2 * n := by omega
    have h7 : (2 ^ (n.log2 + 2) == 2 * n) = false := by simp; omega
    simp only [h6, h7, decide_false, Bool.false_and, Bool.or_false, Bool.toNat_false, Nat.add_zero]

/-- The quotient A / B is kept * 2 ^ E least units (u to the one), correctly rounded. -/
structure DivSpec (kept E A B u : Nat) : Prop where
  lo : 2 ^ 52 ≤ kept
  hi : kept ≤ 2 ^ 53
  up : (2 * kept) * (2 ^ E * B) ≤ 2 * (A * u) + 2 ^ E * B
  dn : 2 * (A * u) ≤ (2 * kept) * (2 ^ E * B) + 2 ^ E * B
  bl : 2 ^ 52 * (2 ^ E * B) ≤ A * u
  bh : A * u < 2 ^ 53 * (2 ^ E * B)
  tie : 2 * (A * u) = (2 * kept) * (2 ^ E * B) + 2 ^ E * B ∨ 2 * (A * u) + 2 ^ E * B = (2 * kept) * (2 ^ E * B) → kept % 2 = 0

/-- The heart: of the quotient's digits. -/
theorem quot_core {m n more Q g kept : Nat} (hn : 0 < n) (hQ : Q = 2 * (m * 2 ^ more / n) + (m * 2 ^ more % n != 0).toNat) {D : Nat} (hD : 2 ≤ D) (hg : g = 2 ^ D) (h1 : 2 * (kept * g) ≤ 2 * Q + g) (h2 : 2 * Q ≤ 2 * (kept * g) + g)
    (ht : 2 * Q = (2 * kept + 1) * g ∨ 2 * Q + g = 2 * kept * g → kept % 2 = 0) (hl : 2 ^ 52 * g ≤ Q) (hh : Q < 2 ^ 53 * g) :
    (2 * kept) * (g * n) ≤ 2 * (2 * (m * 2 ^ more)) + g * n ∧ 2 * (2 * (m * 2 ^ more)) ≤ (2 * kept) * (g * n) + g * n ∧ 2 ^ 52 * (g * n) ≤ 2 * (m * 2 ^ more) ∧ 2 * (m * 2 ^ more) < 2 ^ 53 * (g * n) ∧
    (2 * (2 * (m * 2 ^ more)) = (2 * kept) * (g * n) + g * n ∨ 2 * (2 * (m * 2 ^ more)) + g * n = (2 * kept) * (g * n) → kept % 2 = 0) := by
  generalize hdv : m * 2 ^ more = dv at *
  have hdm := Nat.div_add_mod dv n
  have hlt := Nat.mod_lt dv hn
  generalize dv / n = q at *
  generalize dv % n = r at *
  obtain ⟨g4, hg4⟩ : ∃ g4, g = 4 * g4 := ⟨2 ^ (D - 2), by rw [hg]; have e : 2 ^ D = 2 ^ (2 + (D - 2)) := (by congr 1; omega); rw [e, Nat.pow_add]⟩
  by_cases hr : r = 0
  · -- nothing is left over
    have hQ' : Q = 2 * q := by rw [hQ, hr]; rfl
    have hY : 2 * dv = Q * n := by rw [hQ', Nat.mul_assoc, Nat.mul_comm q n]; omega
    rw [hY]
    refine ⟨?_, ?_, ?_, ?_, ?_⟩
    · have := Nat.mul_le_mul_right n h1
      calc 2 * kept * (g * n) = 2 * (kept * g) * n := by ac_rfl
        _ ≤ (2 * Q + g) * n := this
        _ = _ := by rw [Nat.add_mul, Nat.mul_assoc]
    · have := Nat.mul_le_mul_right n h2
      calc 2 * (Q * n) = 2 * Q * n := by ac_rfl
        _ ≤ (2 * (kept * g) + g) * n := this
        _ = _ := by rw [Nat.add_mul]; congr 1; ac_rfl
    · calc 2 ^ 52 * (g * n) = 2 ^ 52 * g * n := by ac_rfl
        _ ≤ Q * n := Nat.mul_le_mul_right n hl
    · calc Q * n < 2 ^ 53 * g * n := Nat.mul_lt_mul_of_pos_right hh hn
        _ = _ := by ac_rfl
    · rintro (h | h)
      · refine ht (.inl (Nat.eq_of_mul_eq_mul_right hn ?_))
        calc 2 * Q * n = 2 * (Q * n) := by ac_rfl
          _ = _ := h
          _ = _ := by rw [Nat.add_mul, Nat.one_mul, Nat.add_mul]; congr 1; ac_rfl
      · refine ht (.inr (Nat.eq_of_mul_eq_mul_right hn ?_))
        calc (2 * Q + g) * n = 2 * (Q * n) + g * n := by rw [Nat.add_mul]; congr 1; ac_rfl
          _ = _ := h
          _ = _ := by ac_rfl
  · have hQ' : Q = 2 * q + 1 := by
      rw [hQ]
      have : (r != 0) = true := by simp [hr]
      rw [this]; rfl
    have hY1 : (Q - 1) * n < 2 * dv := by
      rw [hQ', Nat.add_sub_cancel, Nat.mul_assoc, Nat.mul_comm q n]; omega
    have hY2 : 2 * dv < (Q + 1) * n := by
      have : (Q + 1) * n = 2 * (n * q) + 2 * n := by rw [hQ', Nat.add_mul, Nat.add_mul, Nat.mul_assoc, Nat.mul_comm q n]; omega
      omega
    have hQ1 : 1 ≤ Q := by omega
    have f1 : 2 * (kept * g) ≤ 2 * (Q - 1) + g := by
      have e1 : kept * g = 4 * (kept * g4) := by rw [hg4]; ac_rfl
      omega
    have f2 : 2 * (Q + 1) ≤ 2 * (kept * g) + g := by
      have e1 : kept * g = 4 * (kept * g4) := by rw [hg4]; ac_rfl
      omega
    have s1 : 2 * kept * (g * n) < 2 * (2 * dv) + g * n := by
      calc 2 * kept * (g * n) = 2 * (kept * g) * n := by ac_rfl
        _ ≤ (2 * (Q - 1) + g) * n := Nat.mul_le_mul_right n f1
        _ = 2 * ((Q - 1) * n) + g * n := by rw [Nat.add_mul, Nat.mul_assoc]
        _ < _ := by omega
    have s2 : 2 * (2 * dv) < 2 * kept * (g * n) + g * n := by
      calc 2 * (2 * dv) < 2 * ((Q + 1) * n) := by omega
        _ = 2 * (Q + 1) * n := by ac_rfl
        _ ≤ (2 * (kept * g) + g) * n := Nat.mul_le_mul_right n f2
        _ = _ := by rw [Nat.add_mul]; congr 1; ac_rfl
    refine ⟨Nat.le_of_lt s1, Nat.le_of_lt s2, ?_, ?_, ?_⟩
    · have f3 : 2 ^ 52 * g ≤ Q - 1 := by
        have e1 : 2 ^ 52 * g = 4 * (2 ^ 52 * g4) := by rw [hg4]; ac_rfl
        generalize 2 ^ 52 * g4 = z at *
        omega
      calc 2 ^ 52 * (g * n) = 2 ^ 52 * g * n := by ac_rfl
        _ ≤ (Q - 1) * n := Nat.mul_le_mul_right n f3
        _ ≤ _ := Nat.le_of_lt hY1
    · have f3 : Q + 1 ≤ 2 ^ 53 * g := by omega
      calc 2 * dv < (Q + 1) * n := hY2
        _ ≤ 2 ^ 53 * g * n := Nat.mul_le_mul_right n f3
        _ = _ := by ac_rfl
    · rintro (h | h)
      · exact absurd h (Nat.ne_of_lt s2)
      · exact absurd h (Nat.ne_of_gt s1)

theorem log2_bounds {n : Nat} (h : n ≠ 0) : 2 ^ n.log2 ≤ n ∧ n < 2 ^ (n.log2 + 1) := ⟨Nat.log2_self_le h, Nat.lt_log2_self⟩

/-- The quotient of two whole numbers. -/
theorem FI_div {x y : Nat} {a b : Int} (hx : FI x a) (hy : FI y b) (ha : a ≠ 0) (hb : b ≠ 0) (hb2 : b.natAbs < 2 ^ 53) (ha2 : a.natAbs < 2 ^ 53) :
    ∃ r, double.div x y = some r ∧ Fin r ∧ ∃ kept E, DivSpec kept E a.natAbs b.natAbs (2 ^ U1) ∧ V r = if (decide (a < 0) ^^ decide (b < 0)) then -((kept * 2 ^ E : Nat) : Int) else ((kept * 2 ^ E : Nat) : Int) := by
  obtain ⟨s, m, i, h1, h2, h3, hm⟩ := read_fin hx.1
  obtain ⟨t, n, j, h4, h5, h6, hn⟩ := read_fin hy.1
  rw [hx.2] at h3
  rw [hy.2] at h6
  have hma : m * 2 ^ (i + 1074).toNat = a.natAbs * 2 ^ U1 := by
    have := congrArg Int.natAbs h3
    rw [signed_natAbs, Int.natAbs_mul, natAbs_pow2] at this
    exact this
  have hnb : n * 2 ^ (j + 1074).toNat = b.natAbs * 2 ^ U1 := by
    have := congrArg Int.natAbs h6
    rw [signed_natAbs, Int.natAbs_mul, natAbs_pow2] at this
    exact this
  have ha' : a.natAbs ≠ 0 := by omega
  have hb' : b.natAbs ≠ 0 := by omega
  have hpos : ∀ k : Nat, (2 : Nat) ^ k ≠ 0 := fun k => Nat.ne_of_gt (Nat.two_pow_pos _)
  have hm0 : m ≠ 0 := fun e => by
    rw [e, Nat.zero_mul] at hma
    rcases Nat.mul_eq_zero.1 hma.symm with h | h
    · exact ha' h
    · exact hpos _ h
  have hn0 : n ≠ 0 := fun e => by
    rw [e, Nat.zero_mul] at hnb
    rcases Nat.mul_eq_zero.1 hnb.symm with h | h
    · exact hb' h
    · exact hpos _ h
  have hi := place_lo h2 hm ha' hma
  have hj := place_lo h5 hn hb' hnb
  have hU : U1 = 1074 := rfl
  have hj2 : j < 53 := by
    rcases Int.lt_or_le j 53 with h | h
    · exact h
    · exfalso
      obtain ⟨c, hc⟩ : ∃ c : Nat, c = 53 := ⟨_, rfl⟩
      have e1 : (j + 1074).toNat = U1 + (j.toNat - c + c) := by rw [hU]; omega
      rw [e1, Nat.pow_add, Nat.pow_add, Nat.mul_comm (2 ^ U1), ← Nat.mul_assoc] at hnb
      have e2 := Nat.eq_of_mul_eq_mul_right (Nat.two_pow_pos _) hnb
      have e3 : 2 ^ c ≤ b.natAbs := by
        rw [← e2, ← Nat.mul_assoc]
        exact Nat.le_mul_of_pos_left _ (Nat.mul_pos (Nat.pos_of_ne_zero hn0) (Nat.two_pow_pos _))
      rw [hc] at e3
      omega
  have hmi : i < 53 := by
    rcases Int.lt_or_le i 53 with h | h
    · exact h
    · exfalso
      obtain ⟨c, hc⟩ : ∃ c : Nat, c = 53 := ⟨_, rfl⟩
      have e1 : (i + 1074).toNat = U1 + (i.toNat - c + c) := by rw [hU]; omega
      rw [e1, Nat.pow_add, Nat.pow_add, Nat.mul_comm (2 ^ U1), ← Nat.mul_assoc] at hma
      have e2 := Nat.eq_of_mul_eq_mul_right (Nat.two_pow_pos _) hma
      have e3 : 2 ^ c ≤ a.natAbs := by
        rw [← e2, ← Nat.mul_assoc]
        exact Nat.le_mul_of_pos_left _ (Nat.mul_pos (Nat.pos_of_ne_zero hm0) (Nat.two_pow_pos _))
      rw [hc] at e3
      omega
  have hlm : m.log2 ≤ 52 := by
    have := (Nat.log2_lt hm0).2 hm
    omega
  have hln : n.log2 ≤ 52 := by
    have := (Nat.log2_lt hn0).2 hn
    omega
  have hmore : (52 + 2) + n.log2 - m.log2 = 54 + n.log2 - m.log2 := rfl
  generalize hmo : 54 + n.log2 - m.log2 = more at *
  let Q := 2 * (m * 2 ^ more / n) + (m * 2 ^ more % n != 0).toNat
  have hQdef : Q = 2 * (m * 2 ^ more / n) + (m * 2 ^ more % n != 0).toNat := rfl
  clear_value Q
  have hdiv : double.div x y = some (double.nearest (s ^^ t) Q (i - j - more - 1)) := by
    unfold Format.div
    rw [h1, h4]
    simp only [Datum.quotient, hn0, if_false, frb, Option.map_some, Format.write]
    rw [show (52 + 2) + n.log2 - m.log2 = more from hmo, Nat.shiftLeft_eq, hQdef]
  -- the quotient has enough digits
  have hq53 : 2 ^ 53 ≤ m * 2 ^ more / n := by
    rw [Nat.le_div_iff_mul_le (Nat.pos_of_ne_zero hn0)]
    obtain ⟨l1, _⟩ := log2_bounds hm0
    obtain ⟨_, l4⟩ := log2_bounds hn0
    have e1 : m.log2 + more = 53 + (n.log2 + 1) := by omega
    calc 2 ^ 53 * n ≤ 2 ^ 53 * 2 ^ (n.log2 + 1) := Nat.mul_le_mul_left _ (Nat.le_of_lt l4)
      _ = 2 ^ m.log2 * 2 ^ more := by rw [← Nat.pow_add, ← Nat.pow_add, e1]
      _ ≤ m * 2 ^ more := Nat.mul_le_mul_right _ l1
  have hQ54 : 2 ^ 54 ≤ Q := by rw [hQdef]; omega
  have hQ0 : Q ≠ 0 := by omega
  obtain ⟨q1, q2⟩ := log2_bounds hQ0
  have hL54 : 54 ≤ Q.log2 := by rw [Nat.le_log2 hQ0]; exact hQ54
  have hLup : Q.log2 ≤ 161 := by
    have hQup : Q < 2 ^ 162 := by
      have : m * 2 ^ more / n ≤ m * 2 ^ more := Nat.div_le_self _ _
      have h7 : m * 2 ^ more < 2 ^ 53 * 2 ^ 106 := by
        apply Nat.lt_of_lt_of_le (Nat.mul_lt_mul_of_pos_right hm (Nat.two_pow_pos _))
        exact Nat.mul_le_mul_left _ (Nat.pow_le_pow_right (by decide) (by omega))
      have h8 : (m * 2 ^ more % n != 0).toNat ≤ 1 := Bool.toNat_le _
      have h9 : (2 : Nat) ^ 53 * 2 ^ 106 = 2 ^ 159 := by decide
      have h10 : (2 : Nat) ^ 162 = 8 * 2 ^ 159 := by decide
      rw [h9] at h7
      rw [hQdef, h10]
      generalize (2 : Nat) ^ 159 = z at *
      omega
    have := (Nat.log2_lt hQ0).2 hQup
    omega
  generalize hpl : i - j - more - 1 = place at *
  have hplb : -300 ≤ place ∧ place ≤ 1100 := by omega
  have hlast : last Q place = place + Q.log2 - 52 := by unfold last; omega
  obtain ⟨n1, n2⟩ := nearest_V (s ^^ t) hQ0 (place := place) (by omega)
  obtain ⟨k1, k2⟩ := kept_bounds (s ^^ t) hQ0 place
  have hk2 : 2 ^ 52 ≤ keptOf (s ^^ t) Q place := k2.resolve_left (by rw [hlast]; omega)
  have hD : (last Q place - place).toNat = Q.log2 - 52 := by rw [hlast]; omega
  have hz : (place - last Q place).toNat = 0 := by rw [hlast]; omega
  have hkd : keptOf (s ^^ t) Q place = Toward.even.cut (s ^^ t) Q (Q.log2 - 52) := by
    unfold keptOf
    rw [hD, hz, Nat.shiftLeft_eq, Nat.pow_zero, Nat.mul_one]
  obtain ⟨c1, c2⟩ := cut_err (s ^^ t) Q (Q.log2 - 52)
  have c3 := cut_tie (s ^^ t) Q (Q.log2 - 52)
  rw [← hkd] at c1 c2 c3
  generalize keptOf (s ^^ t) Q place = kept at *
  have hlg : Q.log2 = 52 + (Q.log2 - 52) := by omega
  have hl : 2 ^ 52 * 2 ^ (Q.log2 - 52) ≤ Q := by rw [← Nat.pow_add, ← hlg]; exact q1
  have hh : Q < 2 ^ 53 * 2 ^ (Q.log2 - 52) := by rw [← Nat.pow_add, show 53 + (Q.log2 - 52) = Q.log2 + 1 by omega]; exact q2
  obtain ⟨r1, r2, r3, r4, r5⟩ := quot_core (Nat.pos_of_ne_zero hn0) hQdef (D := Q.log2 - 52) (by omega) rfl c1 c2 c3 hl hh
  -- the same, in least units
  have hE : (last Q place + 1074).toNat = (Q.log2 - 52) + (place + 1074).toNat := by rw [hlast]; omega
  have hSc1 : 2 ^ (Q.log2 - 52) * n * 2 ^ ((place + 1074).toNat + (j + 1074).toNat) = 2 ^ (last Q place + 1074).toNat * b.natAbs * 2 ^ U1 := by
    rw [hE, Nat.pow_add, Nat.pow_add, Nat.mul_assoc (2 ^ _ * 2 ^ _), ← hnb]; ac_rfl
  have hSc2 : 2 * (m * 2 ^ more) * 2 ^ ((place + 1074).toNat + (j + 1074).toNat) = a.natAbs * 2 ^ U1 * 2 ^ U1 := by
    have e1 : 1 + more + ((place + 1074).toNat + (j + 1074).toNat) = (i + 1074).toNat + U1 := by rw [hU]; omega
    calc 2 * (m * 2 ^ more) * 2 ^ ((place + 1074).toNat + (j + 1074).toNat) = m * (2 ^ 1 * 2 ^ more * 2 ^ ((place + 1074).toNat + (j + 1074).toNat)) := by rw [Nat.pow_one]; ac_rfl
      _ = m * 2 ^ (1 + more + ((place + 1074).toNat + (j + 1074).toNat)) := by rw [← Nat.pow_add, ← Nat.pow_add]
      _ = m * 2 ^ (i + 1074).toNat * 2 ^ U1 := by rw [e1, Nat.pow_add, Nat.mul_assoc]
      _ = _ := by rw [hma]
  refine ⟨_, hdiv, n1, kept, (last Q place + 1074).toNat, ?_, ?_⟩
  · generalize (last Q place + 1074).toNat = E at *
    generalize 2 ^ ((place + 1074).toNat + (j + 1074).toNat) = Sc at *
    generalize hY : 2 * (m * 2 ^ more) = Y at *
    generalize hG : 2 ^ (Q.log2 - 52) * n = G at *
    have hu : 0 < 2 ^ U1 := Nat.two_pow_pos _
    generalize 2 ^ U1 = u at *
    generalize hP : 2 ^ E * b.natAbs = Pw at *
    have sc : ∀ {p q : Nat}, p * Sc = q * u → True := fun _ => trivial
    have g1 : ∀ k, k * (Pw * u) = k * G * Sc := fun k => by rw [← hSc1]; ac_rfl
    have g2 : ∀ k, k * (a.natAbs * u * u) = k * Y * Sc := fun k => by rw [← hSc2]; ac_rfl
    have hle : ∀ {p q : Nat}, p * u ≤ q * u → p ≤ q := fun h => Nat.le_of_mul_le_mul_right h hu
    refine ⟨hk2, k1, ?_, ?_, ?_, ?_, ?_⟩ <;> rw [hP]
    · apply hle
      calc 2 * kept * Pw * u = 2 * kept * G * Sc := by rw [Nat.mul_assoc (2 * kept), g1]
        _ ≤ (2 * Y + G) * Sc := Nat.mul_le_mul_right _ r1
        _ = 2 * (a.natAbs * u * u) + 1 * (Pw * u) := by rw [g1, g2, Nat.add_mul, Nat.one_mul]
        _ = (2 * (a.natAbs * u) + Pw) * u := by rw [Nat.add_mul, Nat.one_mul]; congr 1; ac_rfl
    · apply hle
      calc 2 * (a.natAbs * u) * u = 2 * (a.natAbs * u * u) := by ac_rfl
        _ = 2 * Y * Sc := by rw [g2]
        _ ≤ (2 * kept * G + G) * Sc := Nat.mul_le_mul_right _ r2
        _ = 2 * kept * (Pw * u) + 1 * (Pw * u) := by rw [g1, g1, Nat.add_mul, Nat.one_mul]
        _ = _ := by rw [Nat.add_mul, Nat.one_mul]; ac_rfl
    · apply hle
      calc 2 ^ 52 * Pw * u = 2 ^ 52 * G * Sc := by rw [Nat.mul_assoc, g1]
        _ ≤ Y * Sc := Nat.mul_le_mul_right _ r3
        _ = 1 * (a.natAbs * u * u) := by rw [g2, Nat.one_mul]
        _ = _ := by rw [Nat.one_mul]
    · have hSc0 : 0 < Sc := by
        rcases Nat.eq_zero_or_pos Sc with h | h
        · exfalso
          rw [h, Nat.mul_zero] at hSc2
          have h9 : 0 < a.natAbs * u * u := Nat.mul_pos (Nat.mul_pos (by omega) hu) hu
          omega
        · exact h
      apply Nat.lt_of_mul_lt_mul_right (a := u)
      calc a.natAbs * u * u = Y * Sc := hSc2.symm
        _ < 2 ^ 53 * G * Sc := Nat.mul_lt_mul_of_pos_right r4 hSc0
        _ = 2 ^ 53 * (Pw * u) := by rw [g1]
        _ = _ := by ac_rfl
    · have hSc0 : 0 < Sc := by
        rcases Nat.eq_zero_or_pos Sc with h | h
        · exfalso
          rw [h, Nat.mul_zero] at hSc2
          have h9 : 0 < a.natAbs * u * u := Nat.mul_pos (Nat.mul_pos (by omega) hu) hu
          omega
        · exact h
      rintro (h | h)
      · refine r5 (.inl (Nat.eq_of_mul_eq_mul_right hSc0 ?_))
        calc 2 * Y * Sc = 2 * (a.natAbs * u * u) := (g2 2).symm
          _ = 2 * (a.natAbs * u) * u := by ac_rfl
          _ = (2 * kept * Pw + Pw) * u := by rw [h]
          _ = 2 * kept * (Pw * u) + 1 * (Pw * u) := by rw [Nat.add_mul, Nat.one_mul]; ac_rfl
          _ = 2 * kept * G * Sc + 1 * G * Sc := by rw [g1, g1]
          _ = _ := by rw [Nat.add_mul, Nat.one_mul]
      · refine r5 (.inr (Nat.eq_of_mul_eq_mul_right hSc0 ?_))
        calc (2 * Y + G) * Sc = 2 * (a.natAbs * u * u) + 1 * (Pw * u) := by rw [g1, g2, Nat.add_mul, Nat.one_mul]
          _ = (2 * (a.natAbs * u) + Pw) * u := by rw [Nat.add_mul, Nat.one_mul]; ac_rfl
          _ = 2 * kept * Pw * u := by rw [h]
          _ = 2 * kept * (Pw * u) := by ac_rfl
          _ = _ := g1 _
  · rw [n2]
    have sgn : ∀ {s : Bool} {m k : Nat} {a : Int}, a ≠ 0 → signed s m k = a * 2 ^ U1 → s = decide (a < 0) := by
      intro s m k a ha h
      have hp := pow_pos' U1
      rw [signed_mag] at h
      cases s
      · have h8 : 0 ≤ a * 2 ^ U1 := by rw [← h]; exact Int.natCast_nonneg _
        have : ¬ a < 0 := fun hneg => by have := Int.mul_neg_of_neg_of_pos hneg hp; omega
        exact (decide_eq_false this).symm
      · have h9 : a * 2 ^ U1 ≤ 0 := by rw [← h]; exact Int.neg_nonpos_of_nonneg (Int.natCast_nonneg _)
        have : a < 0 := by
          rcases Int.lt_or_le a 0 with h10 | h10
          · exact h10
          · have : 0 < a := by omega
            have := Int.mul_pos this hp; omega
        exact (decide_eq_true this).symm
    rw [sgn ha h3, sgn hb h6]

end Go.Fl

/- How two quotients of whole numbers stand to each other. -/
namespace Go.Fl
open Ieee

section
variable {k E A B u l F C D : Nat}

theorem DivSpec.pos (h : DivSpec k E A B u) : 0 < k := by have := h.lo; omega

theorem quot_lt (h1 : DivSpec k E A B u) (h2 : DivSpec l F C D u) (_hB : 0 < B) (_hD : 0 < D) (hu : 0 < u) (hlt : A * D < C * B) (hs : A * D ≤ 2 ^ 50) : k * 2 ^ E < l * 2 ^ F := by
  -- 2 ^ 53 N B <= (2 ^ 53 + 1) A u
  have e1 : 2 ^ 53 * (k * 2 ^ E * B) ≤ (2 ^ 53 + 1) * (A * u) := by
    have a1 := h1.up
    have a2 := h1.bl
    have a3 : 2 * k * (2 ^ E * B) = 2 * (k * 2 ^ E * B) := by ac_rfl
    rw [a3] at a1
    generalize 2 ^ E * B = P at *
    generalize k * 2 ^ E * B = N at *
    omega
  have e2 : 2 ^ 53 * (C * u) ≤ 2 ^ 53 * (l * 2 ^ F * D) + C * u := by
    have a1 := h2.dn
    have a2 := h2.bl
    have a3 : 2 * l * (2 ^ F * D) = 2 * (l * 2 ^ F * D) := by ac_rfl
    rw [a3] at a1
    generalize 2 ^ F * D = P at *
    generalize l * 2 ^ F * D = N at *
    omega
  have f1 : 2 ^ 53 * (k * 2 ^ E) * (B * D) ≤ (2 ^ 53 + 1) * (A * D) * u := by
    calc 2 ^ 53 * (k * 2 ^ E) * (B * D) = 2 ^ 53 * (k * 2 ^ E * B) * D := by ac_rfl
      _ ≤ (2 ^ 53 + 1) * (A * u) * D := Nat.mul_le_mul_right _ e1
      _ = _ := by ac_rfl
  have f2 : 2 ^ 53 * (C * B) * u ≤ 2 ^ 53 * (l * 2 ^ F) * (B * D) + (C * B) * u := by
    calc 2 ^ 53 * (C * B) * u = 2 ^ 53 * (C * u) * B := by ac_rfl
      _ ≤ (2 ^ 53 * (l * 2 ^ F * D) + C * u) * B := Nat.mul_le_mul_right _ e2
      _ = _ := by rw [Nat.add_mul]; congr 1 <;> ac_rfl
  have f3 : (2 ^ 53 + 1) * (A * D) * u + (C * B) * u < 2 ^ 53 * (C * B) * u := by
    rw [← Nat.add_mul]
    apply Nat.mul_lt_mul_of_pos_right _ hu
    generalize A * D = X at *
    generalize C * B = Y at *
    omega
  have f4 : 2 ^ 53 * (k * 2 ^ E) * (B * D) < 2 ^ 53 * (l * 2 ^ F) * (B * D) := by omega
  have f5 := Nat.lt_of_mul_lt_mul_right f4
  exact Nat.lt_of_mul_lt_mul_left f5

theorem quot_eq (h1 : DivSpec k E A B u) (h2 : DivSpec l F C D u) (hB : 0 < B) (hD : 0 < D) (heq : A * D = C * B) : k * 2 ^ E = l * 2 ^ F := by
  have hX : A * u * D = C * u * B := by
    calc A * u * D = A * D * u := by ac_rfl
      _ = C * B * u := by rw [heq]
      _ = _ := by ac_rfl
  have b1 : 2 ^ 52 * (2 ^ E * (B * D)) ≤ A * u * D := by
    calc _ = 2 ^ 52 * (2 ^ E * B) * D := by ac_rfl
      _ ≤ _ := Nat.mul_le_mul_right _ h1.bl
  have b2 : A * u * D < 2 ^ 53 * (2 ^ E * (B * D)) := by
    calc _ < 2 ^ 53 * (2 ^ E * B) * D := Nat.mul_lt_mul_of_pos_right h1.bh hD
      _ = _ := by ac_rfl
  have b3 : 2 ^ 52 * (2 ^ F * (B * D)) ≤ A * u * D := by
    rw [hX]
    calc _ = 2 ^ 52 * (2 ^ F * D) * B := by ac_rfl
      _ ≤ _ := Nat.mul_le_mul_right _ h2.bl
  have b4 : A * u * D < 2 ^ 53 * (2 ^ F * (B * D)) := by
    rw [hX]
    calc _ < 2 ^ 53 * (2 ^ F * D) * B := Nat.mul_lt_mul_of_pos_right h2.bh hB
      _ = _ := by ac_rfl
  have hlt : ∀ {E F : Nat}, 2 ^ 52 * (2 ^ F * (B * D)) ≤ A * u * D → A * u * D < 2 ^ 53 * (2 ^ E * (B * D)) → ¬ E < F := by
    intro E F c1 c2 hEF
    have c3 : 2 ^ (E + 1) ≤ 2 ^ F := Nat.pow_le_pow_right (by decide) hEF
    have c4 : 2 ^ (E + 1) * (B * D) ≤ 2 ^ F * (B * D) := Nat.mul_le_mul_right _ c3
    have c5 : 2 ^ (E + 1) * (B * D) = 2 * (2 ^ E * (B * D)) := by rw [Nat.pow_succ]; ac_rfl
    rw [c5] at c4
    generalize 2 ^ E * (B * D) = x at *
    generalize 2 ^ F * (B * D) = y at *
    omega
  have hEF : E = F := Nat.le_antisymm (Nat.not_lt.1 (hlt (E := F) (F := E) b1 b4)) (Nat.not_lt.1 (hlt (E := E) (F := F) b3 b2))
  subst hEF
  have u1 : 2 * k * (2 ^ E * (B * D)) ≤ 2 * (A * u * D) + 2 ^ E * (B * D) := by
    calc _ = 2 * k * (2 ^ E * B) * D := by ac_rfl
      _ ≤ (2 * (A * u) + 2 ^ E * B) * D := Nat.mul_le_mul_right _ h1.up
      _ = _ := by rw [Nat.add_mul]; congr 1 <;> ac_rfl
  have u2 : 2 * (A * u * D) ≤ 2 * k * (2 ^ E * (B * D)) + 2 ^ E * (B * D) := by
    calc _ = 2 * (A * u) * D := by ac_rfl
      _ ≤ (2 * k * (2 ^ E * B) + 2 ^ E * B) * D := Nat.mul_le_mul_right _ h1.dn
      _ = _ := by rw [Nat.add_mul]; congr 1 <;> ac_rfl
  have u3 : 2 * l * (2 ^ E * (B * D)) ≤ 2 * (A * u * D) + 2 ^ E * (B * D) := by
    rw [hX]
    calc _ = 2 * l * (2 ^ E * D) * B := by ac_rfl
      _ ≤ (2 * (C * u) + 2 ^ E * D) * B := Nat.mul_le_mul_right _ h2.up
      _ = _ := by rw [Nat.add_mul]; congr 1 <;> ac_rfl
  have u4 : 2 * (A * u * D) ≤ 2 * l * (2 ^ E * (B * D)) + 2 ^ E * (B * D) := by
    rw [hX]
    calc _ = 2 * (C * u) * B := by ac_rfl
      _ ≤ (2 * l * (2 ^ E * D) + 2 ^ E * D) * B := Nat.mul_le_mul_right _ h2.dn
      _ = _ := by rw [Nat.add_mul]; congr 1 <;> ac_rfl
  have hP : 0 < 2 ^ E * (B * D) := Nat.mul_pos (Nat.two_pow_pos _) (Nat.mul_pos hB hD)
  have t1 : (2 * (A * u * D) = 2 * k * (2 ^ E * (B * D)) + 2 ^ E * (B * D) ∨ 2 * (A * u * D) + 2 ^ E * (B * D) = 2 * k * (2 ^ E * (B * D))) → k % 2 = 0 := by
    rintro (h | h)
    · refine h1.tie (.inl (Nat.eq_of_mul_eq_mul_right hD ?_))
      calc 2 * (A * u) * D = 2 * (A * u * D) := by ac_rfl
        _ = _ := h
        _ = _ := by rw [Nat.add_mul]; congr 1 <;> ac_rfl
    · refine h1.tie (.inr (Nat.eq_of_mul_eq_mul_right hD ?_))
      calc (2 * (A * u) + 2 ^ E * B) * D = 2 * (A * u * D) + 2 ^ E * (B * D) := by rw [Nat.add_mul]; congr 1 <;> ac_rfl
        _ = _ := h
        _ = _ := by ac_rfl
  have t2 : (2 * (A * u * D) = 2 * l * (2 ^ E * (B * D)) + 2 ^ E * (B * D) ∨ 2 * (A * u * D) + 2 ^ E * (B * D) = 2 * l * (2 ^ E * (B * D))) → l % 2 = 0 := by
    rw [hX]
    rintro (h | h)
    · refine h2.tie (.inl (Nat.eq_of_mul_eq_mul_right hB ?_))
      calc 2 * (C * u) * B = 2 * (C * u * B) := by ac_rfl
        _ = _ := h
        _ = _ := by rw [Nat.add_mul]; congr 1 <;> ac_rfl
    · refine h2.tie (.inr (Nat.eq_of_mul_eq_mul_right hB ?_))
      calc (2 * (C * u) + 2 ^ E * D) * B = 2 * (C * u * B) + 2 ^ E * (B * D) := by rw [Nat.add_mul]; congr 1 <;> ac_rfl
        _ = _ := h
        _ = _ := by ac_rfl
  clear b1 b2 b3 b4 hlt hX h1 h2
  generalize 2 ^ E * (B * D) = p at *
  generalize A * u * D = X at *
  congr 1
  have step : ∀ k l : Nat, 2 * k * p ≤ 2 * X + p → 2 * X ≤ 2 * k * p + p → 2 * l * p ≤ 2 * X + p → ((2 * X = 2 * k * p + p ∨ 2 * X + p = 2 * k * p) → k % 2 = 0) → ((2 * X = 2 * l * p + p ∨ 2 * X + p = 2 * l * p) → l % 2 = 0) → ¬ k < l := by
    intro k l v1 v2 v3 w1 w2 hkl
    obtain ⟨d, rfl⟩ : ∃ d, l = k + 1 + d := ⟨l - (k + 1), by omega⟩
    have x1 : 2 * (k + 1 + d) * p = 2 * k * p + 2 * p + 2 * (d * p) := by rw [Nat.mul_add, Nat.mul_add, Nat.add_mul, Nat.add_mul, Nat.mul_assoc 2 d p]
    rw [x1] at v3 w2
    have hd : d * p = 0 := by omega
    have hd0 : d = 0 := by
      rcases Nat.mul_eq_zero.1 hd with h | h
      · exact h
      · omega
    subst hd0
    have y1 := w1 (by left; omega)
    have y2 := w2 (by right; omega)
    omega
  exact Nat.le_antisymm (Nat.not_lt.1 (step l k u3 u4 u1 t2 t1)) (Nat.not_lt.1 (step k l u1 u2 u3 t1 t2))

end

/-! ### With signs -/
/-- v is what the quotient of a and b is rounded to. -/
def QV (v : Int) (a b : Int) : Prop :=
  (a = 0 ∧ v = 0) ∨ (a ≠ 0 ∧ ∃ k E, DivSpec k E a.natAbs b.natAbs (2 ^ U1) ∧ v = if (decide (a < 0) ^^ decide (b < 0)) then -((k * 2 ^ E : Nat) : Int) else ((k * 2 ^ E : Nat) : Int))

theorem div_QV {x y : Nat} {a b : Int} (hx : FI x a) (hy : FI y b) (hb : b ≠ 0) (hb2 : b.natAbs < 2 ^ 53) (ha2 : a.natAbs < 2 ^ 53) : ∃ r, double.div x y = some r ∧ Fin r ∧ QV (V r) a b := by
  by_cases ha : a = 0
  · subst ha
    obtain ⟨s, m, i, h1, h2, h3, _⟩ := read_fin hx.1
    obtain ⟨t, n, j, h4, h5, h6, _⟩ := read_fin hy.1
    rw [hx.2, Int.zero_mul] at h3
    rw [hy.2] at h6
    have hm0 : m = 0 := by
      have := congrArg Int.natAbs h3
      rw [signed_natAbs] at this
      rcases Nat.mul_eq_zero.1 this with h | h
      · exact h
      · exact absurd h (Nat.ne_of_gt (Nat.two_pow_pos _))
    have hn0 : n ≠ 0 := fun e => by
      have := congrArg Int.natAbs h6
      rw [signed_natAbs, e, Nat.zero_mul, Int.natAbs_mul, natAbs_pow2] at this
      rcases Nat.mul_eq_zero.1 this.symm with h | h
      · omega
      · exact absurd h (Nat.ne_of_gt (Nat.two_pow_pos _))
    subst hm0
    refine ⟨double.word (s ^^ t) 0, ?_, (word_zero _).1, .inl ⟨rfl, ?_⟩⟩
    · unfold Format.div
      rw [h1, h4]
      simp only [Datum.quotient, hn0, if_false, Option.map_some, Format.write, Nat.zero_shiftLeft, Nat.zero_div, Nat.zero_mod, bne_self_eq_false, Bool.toNat_false, Nat.mul_zero, Nat.add_zero]
      unfold Format.nearest
      simp
    · rw [(word_zero _).2, Int.zero_mul]
  · obtain ⟨r, h1, h2, k, E, h3, h4⟩ := FI_div hx hy ha hb hb2 ha2
    exact ⟨r, h1, h2, .inr ⟨ha, k, E, h3, h4⟩⟩

theorem mul_sign (a b : Int) : a * b = if (decide (a < 0) ^^ decide (b < 0)) then -((a.natAbs * b.natAbs : Nat) : Int) else ((a.natAbs * b.natAbs : Nat) : Int) := by
  rw [Int.natCast_mul]
  by_cases hA : a < 0 <;> by_cases hB : b < 0
  · have e1 : (a.natAbs : Int) = -a := by omega
    have e2 : (b.natAbs : Int) = -b := by omega
    simp only [hA, hB, decide_true, Bool.xor_self, Bool.false_eq_true, if_false, e1, e2, Int.neg_mul_neg]
  · have e1 : (a.natAbs : Int) = -a := by omega
    have e2 : (b.natAbs : Int) = b := by omega
    simp only [hA, hB, decide_true, decide_false, Bool.xor_false, if_true, e1, e2, Int.neg_mul, Int.neg_neg]
  · have e1 : (a.natAbs : Int) = a := by omega
    have e2 : (b.natAbs : Int) = -b := by omega
    simp only [hA, hB, decide_true, decide_false, Bool.false_xor, if_true, e1, e2, Int.mul_neg, Int.neg_neg]
  · have e1 : (a.natAbs : Int) = a := by omega
    have e2 : (b.natAbs : Int) = b := by omega
    simp only [hA, hB, decide_false, Bool.xor_self, Bool.false_eq_true, if_false, e1, e2]

theorem QV_lt {v w a b c d : Int} (h1 : QV v a b) (h2 : QV w c d) (hb : b ≠ 0) (hd : d ≠ 0) (hs1 : a.natAbs * d.natAbs ≤ 2 ^ 50) (hs2 : c.natAbs * b.natAbs ≤ 2 ^ 50) (h : a * b * (d * d) < c * d * (b * b)) : v < w := by
  have hu : 0 < 2 ^ U1 := Nat.two_pow_pos _
  have hB : 0 < b.natAbs := by omega
  have hD : 0 < d.natAbs := by omega
  have sq : ∀ x : Int, x * x = ((x.natAbs * x.natAbs : Nat) : Int) := fun x => by rw [mul_sign x x]; simp
  rw [sq b, sq d, mul_sign a b, mul_sign c d] at h
  have key : ∀ A B C D : Nat, A * B * (D * D) < C * D * (B * B) → A * D < C * B := by
    intro A B C D hh
    have : A * D * (B * D) < C * B * (B * D) := by
      calc A * D * (B * D) = A * B * (D * D) := by ac_rfl
        _ < _ := hh
        _ = _ := by ac_rfl
    exact Nat.lt_of_mul_lt_mul_right this
  rcases h1 with ⟨rfl, rfl⟩ | ⟨ha, k, E, hk, hv⟩ <;> rcases h2 with ⟨rfl, rfl⟩ | ⟨hc, l, F, hl, hw⟩
  · simp at h
  · rw [hw]
    have hp : 0 < l * 2 ^ F := Nat.mul_pos hl.pos (Nat.two_pow_pos _)
    split
    · rename_i hs
      exfalso
      simp only [hs, if_true, Int.natAbs_zero, Nat.zero_mul] at h
      generalize c.natAbs * d.natAbs = x at h
      generalize b.natAbs * b.natAbs = y at h
      have : (0 : Int) ≤ (x : Int) * (y : Int) := Int.mul_nonneg (Int.natCast_nonneg _) (Int.natCast_nonneg _)
      simp [Int.neg_mul] at h
      omega
    · omega
  · rw [hv]
    have hp : 0 < k * 2 ^ E := Nat.mul_pos hk.pos (Nat.two_pow_pos _)
    split
    · omega
    · rename_i hs
      exfalso
      simp only [hs, Bool.false_eq_true, if_false, Int.natAbs_zero, Nat.zero_mul] at h
      generalize a.natAbs * b.natAbs = x at h
      generalize d.natAbs * d.natAbs = y at h
      have : (0 : Int) ≤ (x : Int) * (y : Int) := Int.mul_nonneg (Int.natCast_nonneg _) (Int.natCast_nonneg _)
      simp at h
      omega
  · rw [hv, hw]
    have hp1 : 0 < k * 2 ^ E := Nat.mul_pos hk.pos (Nat.two_pow_pos _)
    have hp2 : 0 < l * 2 ^ F := Nat.mul_pos hl.pos (Nat.two_pow_pos _)
    by_cases s1 : (decide (a < 0) ^^ decide (b < 0)) = true <;> by_cases s2 : (decide (c < 0) ^^ decide (d < 0)) = true
    · simp only [s1, s2, if_true] at h ⊢
      have h' : c.natAbs * d.natAbs * (b.natAbs * b.natAbs) < a.natAbs * b.natAbs * (d.natAbs * d.natAbs) := by
        rw [Int.neg_mul, Int.neg_mul, ← Int.natCast_mul, ← Int.natCast_mul] at h
        omega
      have := quot_lt hl hk hD hB hu (key _ _ _ _ h') hs2
      omega
    · simp only [s1, s2, if_true, Bool.false_eq_true, if_false]
      omega
    · exfalso
      simp only [s1, s2, if_true, Bool.false_eq_true, if_false] at h
      rw [Int.neg_mul, ← Int.natCast_mul, ← Int.natCast_mul] at h
      omega
    · simp only [s1, s2, Bool.false_eq_true, if_false] at h ⊢
      have h' : a.natAbs * b.natAbs * (d.natAbs * d.natAbs) < c.natAbs * d.natAbs * (b.natAbs * b.natAbs) := by
        rw [← Int.natCast_mul, ← Int.natCast_mul] at h
        omega
      have := quot_lt hk hl hB hD hu (key _ _ _ _ h') hs1
      omega

theorem QV_eq {v w a b c d : Int} (h1 : QV v a b) (h2 : QV w c d) (hb : b ≠ 0) (hd : d ≠ 0) (h : a * d = c * b) : v = w := by
  have hB : 0 < b.natAbs := by omega
  have hD : 0 < d.natAbs := by omega
  have hA : a.natAbs * d.natAbs = c.natAbs * b.natAbs := by rw [← Int.natAbs_mul, ← Int.natAbs_mul, h]
  rcases h1 with ⟨rfl, rfl⟩ | ⟨ha, k, E, hk, hv⟩ <;> rcases h2 with ⟨rfl, rfl⟩ | ⟨hc, l, F, hl, hw⟩
  · rfl
  · rw [Int.zero_mul] at h
    rcases Int.mul_eq_zero.1 h.symm with e | e
    · exact absurd e hc
    · exact absurd e hb
  · rw [Int.zero_mul] at h
    rcases Int.mul_eq_zero.1 h with e | e
    · exact absurd e ha
    · exact absurd e hd
  · rw [hv, hw, quot_eq hk hl hB hD hA]
    have hs : (decide (a < 0) ^^ decide (b < 0)) = (decide (c < 0) ^^ decide (d < 0)) := by
      have e1 := mul_sign a d
      have e2 := mul_sign c b
      have p1 : 0 < a.natAbs * d.natAbs := Nat.mul_pos (by omega) hD
      have p2 : 0 < c.natAbs * b.natAbs := Nat.mul_pos (by omega) hB
      rw [h, e2] at e1
      have hx : (decide (a < 0) ^^ decide (d < 0)) = (decide (c < 0) ^^ decide (b < 0)) := by
        cases x1 : (decide (a < 0) ^^ decide (d < 0)) <;> cases x2 : (decide (c < 0) ^^ decide (b < 0))
        · rfl
        · simp only [x1, x2, if_true, Bool.false_eq_true, if_false] at e1; omega
        · simp only [x1, x2, if_true, Bool.false_eq_true, if_false] at e1; omega
        · rfl
      generalize decide (a < 0) = p at *
      generalize decide (b < 0) = q at *
      generalize decide (c < 0) = r at *
      generalize decide (d < 0) = t at *
      cases p <;> cases q <;> cases r <;> cases t <;> simp_all
    rw [hs]

end Go.Fl

/- Comparisons of floats, as the walk has them, by their values. -/
namespace Go.Fl
open Go.Sx Ieee

def infw : Nat := 9218868437227405312

theorem fin_order {x y : Nat} (hx : Fin x) (hy : Fin y) : FloatKind.f64.format.order x y = some (compare (V x) (V y)) := order_fin hx hy
theorem fin_zero : Fin 0 := ⟨by decide, by decide⟩
theorem V_zero : V 0 = 0 := by decide
theorem read_inf : Ieee.Format.read Ieee.double infw = .infinity false := by decide
theorem order_inf {x : Nat} (hx : Fin x) : FloatKind.f64.format.order x infw = some .lt := by
  obtain ⟨s, m, i, h1, _⟩ := read_fin hx
  show (Ieee.Format.read Ieee.double x).order (Ieee.Format.read Ieee.double infw) = _
  rw [h1, read_inf]; rfl
theorem inf_order {x : Nat} (hx : Fin x) : FloatKind.f64.format.order infw x = some .gt := by
  obtain ⟨s, m, i, h1, _⟩ := read_fin hx
  show (Ieee.Format.read Ieee.double infw).order (Ieee.Format.read Ieee.double x) = _
  rw [h1, read_inf]; rfl
theorem fne_self {x : Nat} (hx : Fin x) : fNe .f64 x x = false := by
  unfold fNe; rw [fin_order hx hx, cmp_int]; simp
theorem feq_inf {x : Nat} (hx : Fin x) : fEq .f64 x infw = false := by
  unfold fEq; rw [order_inf hx]; rfl
theorem fgt_inf {x : Nat} (hx : Fin x) : fGt .f64 infw x = true := by
  unfold fGt; rw [inf_order hx]; rfl

/-- Comparisons of numbers. -/
theorem feq_V {x y : Nat} (hx : Fin x) (hy : Fin y) : fEq .f64 x y = decide (V x = V y) := by
  unfold fEq; rw [fin_order hx hy, cmp_int]
  split
  · rename_i h; rw [decide_eq_false (by omega)]; rfl
  · split
    · rename_i h; rw [decide_eq_true h]; rfl
    · rename_i h; rw [decide_eq_false h]; rfl
theorem flt_V {x y : Nat} (hx : Fin x) (hy : Fin y) : fLt .f64 x y = decide (V x < V y) := by
  unfold fLt; rw [fin_order hx hy, cmp_int]
  split
  · rename_i h; rw [decide_eq_true h]; rfl
  · rename_i h; rw [decide_eq_false h]; split <;> rfl
theorem fle_V {x y : Nat} (hx : Fin x) (hy : Fin y) : fLe .f64 x y = decide (V x ≤ V y) := by
  unfold fLe; rw [fin_order hx hy, cmp_int]
  split
  · rename_i h; rw [decide_eq_true (by omega)]; rfl
  · split
    · rename_i h; rw [decide_eq_true (by omega)]; rfl
    · rename_i h; rw [decide_eq_false (by omega)]; rfl
theorem fgt_V {x y : Nat} (hx : Fin x) (hy : Fin y) : fGt .f64 x y = decide (V y < V x) := by
  unfold fGt; rw [fin_order hx hy, cmp_int]
  split
  · rename_i h; rw [decide_eq_false (by omega)]; rfl
  · split
    · rename_i h; rw [decide_eq_false (by omega)]; rfl
    · rename_i h; rw [decide_eq_true (by omega)]; rfl
theorem fge_V {x y : Nat} (hx : Fin x) (hy : Fin y) : fGe .f64 x y = decide (V y ≤ V x) := by
  unfold fGe; rw [fin_order hx hy, cmp_int]
  split
  · rename_i h; rw [decide_eq_false (by omega)]; rfl
  · split
    · rename_i h; rw [decide_eq_true (by omega)]; rfl
    · rename_i h; rw [decide_eq_true (by omega)]; rfl
theorem feq_zero {x : Nat} (hx : Fin x) : fEq .f64 x 0 = decide (V x = 0) := by rw [feq_V hx fin_zero, V_zero]
theorem fgt_zero {x : Nat} (hx : Fin x) : fGt .f64 x 0 = decide (0 < V x) := by rw [fgt_V hx fin_zero, V_zero]


/-- Comparisons of whole numbers. -/
theorem ord_I {x y : Nat} {a b : Int} (hx : FI x a) (hy : FI y b) : FloatKind.f64.format.order x y = some (compare a b) := hx.order hy
theorem flt_I {x y : Nat} {a b : Int} (hx : FI x a) (hy : FI y b) : fLt .f64 x y = decide (a < b) := by
  unfold fLt; rw [ord_I hx hy, cmp_int]
  split
  · rename_i h; rw [decide_eq_true h]; rfl
  · rename_i h; rw [decide_eq_false h]; split <;> rfl
theorem fgt_I {x y : Nat} {a b : Int} (hx : FI x a) (hy : FI y b) : fGt .f64 x y = decide (b < a) := by
  unfold fGt; rw [ord_I hx hy, cmp_int]
  split
  · rename_i h; rw [decide_eq_false (by omega)]; rfl
  · split
    · rename_i h; rw [decide_eq_false (by omega)]; rfl
    · rename_i h; rw [decide_eq_true (by omega)]; rfl
theorem feq_I {x y : Nat} {a b : Int} (hx : FI x a) (hy : FI y b) : fEq .f64 x y = decide (a = b) := by
  unfold fEq; rw [ord_I hx hy, cmp_int]
  split
  · rename_i h; rw [decide_eq_false (by omega)]; rfl
  · split
    · rename_i h; rw [decide_eq_true h]; rfl
    · rename_i h; rw [decide_eq_false h]; rfl
theorem fle_I {x y : Nat} {a b : Int} (hx : FI x a) (hy : FI y b) : fLe .f64 x y = decide (a ≤ b) := by
  unfold fLe; rw [ord_I hx hy, cmp_int]
  split
  · rename_i h; rw [decide_eq_true (by omega)]; rfl
  · split
    · rename_i h; rw [decide_eq_true (by omega)]; rfl
    · rename_i h; rw [decide_eq_false (by omega)]; rfl
theorem fge_I {x y : Nat} {a b : Int} (hx : FI x a) (hy : FI y b) : fGe .f64 x y = decide (b ≤ a) := by
  unfold fGe; rw [ord_I hx hy, cmp_int]
  split
  · rename_i h; rw [decide_eq_false (by omega)]; rfl
  · split
    · rename_i h; rw [decide_eq_true (by omega)]; rfl
    · rename_i h; rw [decide_eq_true (by omega)]; rfl

end Go.Fl

/- The next float above a whole number; what stands so near to it, and what it is divided by whole numbers. -/
namespace Go.Fl
open Ieee

theorem rmag_succ (r : Nat) : rmag (r + 1) = rmag r + 2 ^ (r / 2 ^ 52 - 1) := by
  by_cases h : r < 2 ^ 52
  · have h0 : r / 2 ^ 52 = 0 := Nat.div_eq_of_lt h
    rw [h0, rmag_small h]
    by_cases h1 : r + 1 < 2 ^ 52
    · rw [rmag_small h1]
    · have : r + 1 = (0 + 1) * 2 ^ 52 + 0 := by omega
      rw [this, rmag_at 0 0 (by decide)]
  · obtain ⟨E, f, hf, he⟩ : ∃ E f, f < 2 ^ 52 ∧ r = (E + 1) * 2 ^ 52 + f := ⟨r / 2 ^ 52 - 1, r % 2 ^ 52, Nat.mod_lt _ (by decide), by omega⟩
    have hd : r / 2 ^ 52 - 1 = E := by omega
    rw [hd, he, rmag_at E f hf]
    by_cases h1 : f + 1 < 2 ^ 52
    · rw [show (E + 1) * 2 ^ 52 + f + 1 = (E + 1) * 2 ^ 52 + (f + 1) by omega, rmag_at E (f + 1) h1, ← Nat.add_assoc, Nat.add_mul, Nat.one_mul]
    · have h2 : f = 2 ^ 52 - 1 := by omega
      rw [show (E + 1) * 2 ^ 52 + f + 1 = (E + 1 + 1) * 2 ^ 52 + 0 by omega, rmag_at (E + 1) 0 (by decide), h2]
      rw [Nat.pow_succ]
      omega

theorem rmag_step (r : Nat) : 2 ^ 52 * 2 ^ (r / 2 ^ 52 - 1) ≤ rmag r + 2 ^ 52 := by
  by_cases h : r < 2 ^ 52
  · have h0 : r / 2 ^ 52 = 0 := Nat.div_eq_of_lt h
    rw [h0]; omega
  · obtain ⟨E, f, hf, he⟩ : ∃ E f, f < 2 ^ 52 ∧ r = (E + 1) * 2 ^ 52 + f := ⟨r / 2 ^ 52 - 1, r % 2 ^ 52, Nat.mod_lt _ (by decide), by omega⟩
    have hd : r / 2 ^ 52 - 1 = E := by omega
    rw [hd, he, rmag_at E f hf, Nat.add_mul]
    omega

theorem V_pos {x : Nat} (h : x < 2 ^ 63) : V x = rmag x := by
  unfold V
  rw [if_neg (by omega), Nat.mod_eq_of_lt h]

theorem V_neg {r : Nat} (h : r < 2 ^ 63) : V (2 ^ 63 + r) = -(rmag r : Int) := by
  unfold V
  rw [if_pos (by omega), show (2 ^ 63 + r) % 2 ^ 63 = r by omega]

/-- A step is small where the number is. -/
theorem step_small {r : Nat} {b : Nat} (hr : rmag r ≤ 2 ^ (52 + b)) : r / 2 ^ 52 - 1 ≤ b + 1 := by
  have h1 := rmag_step r
  rcases Nat.lt_or_ge (b + 1) (r / 2 ^ 52 - 1) with h | h
  · exfalso
    have h2 : 2 ^ (b + 2) ≤ 2 ^ (r / 2 ^ 52 - 1) := Nat.pow_le_pow_right (by decide) h
    have h3 : 2 ^ 52 * 2 ^ (b + 2) ≤ rmag r + 2 ^ 52 := Nat.le_trans (Nat.mul_le_mul_left _ h2) h1
    have h4 : 2 ^ (52 + b) = 2 ^ 52 * 2 ^ b := Nat.pow_add 2 52 b
    have h5 : 2 ^ 52 * 2 ^ (b + 2) = 4 * (2 ^ 52 * 2 ^ b) := by rw [Nat.pow_add 2 b 2]; omega
    have h6 : 2 ^ 52 ≤ 2 ^ 52 * 2 ^ b := Nat.le_mul_of_pos_right _ (Nat.two_pow_pos _)
    omega
  · exact h

/-- The next float above. -/
def nxt (x : Nat) : Nat := if V x = 0 then 1 else if 0 < V x then x + 1 else x - 1

theorem nxt_spec {x : Nat} {n : Int} (h : FI x n) (hn : n.natAbs ≤ 2 ^ 22) : x + 1 < 18446744073709551616 ∧ Fin (nxt x) ∧ ∃ k, k ≤ 1045 ∧ V (nxt x) = n * 2 ^ U1 + ((2 ^ k : Nat) : Int) := by
  obtain ⟨⟨h64, hrung⟩, hv⟩ := h
  have hU : U1 = 1074 := rfl
  obtain ⟨b, hb⟩ : ∃ b : Nat, b = 1044 := ⟨_, rfl⟩
  have hbU : 22 + U1 = 52 + b := by omega
  have hmag : n.natAbs * 2 ^ U1 ≤ 2 ^ (52 + b) := by
    rw [← hbU, Nat.pow_add]; exact Nat.mul_le_mul_right _ hn
  have hpow : (2 : Int) ^ U1 = ((2 ^ U1 : Nat) : Int) := by simp
  have habs : (V x).natAbs = n.natAbs * 2 ^ U1 := by rw [hv, Int.natAbs_mul, natAbs_pow2]
  rw [← habs] at hmag
  refine ⟨by omega, ?_⟩
  unfold nxt
  by_cases h0 : V x = 0
  · rw [if_pos h0]
    have h1 : V 1 = 1 := by decide
    refine ⟨⟨by decide, by decide⟩, 0, by omega, ?_⟩
    rw [h1, ← hv, h0]; rfl
  · rw [if_neg h0]
    rcases Nat.lt_or_ge x (2 ^ 63) with hlo | hhi
    · have hVx := V_pos hlo
      have hpos : 0 < V x := by rw [hVx] at h0 ⊢; omega
      rw [if_pos hpos]
      rw [Nat.mod_eq_of_lt hlo] at hrung
      rw [hVx, Int.natAbs_natCast] at hmag
      have hs := step_small hmag
      have hx1 : x + 1 < 2 ^ 63 := by omega
      refine ⟨⟨by omega, by rw [Nat.mod_eq_of_lt hx1]; omega⟩, x / 2 ^ 52 - 1, by omega, ?_⟩
      rw [V_pos hx1, rmag_succ, ← hv, hVx]
      exact Int.natCast_add _ _
    · obtain ⟨r, rfl⟩ : ∃ r, x = 2 ^ 63 + r := ⟨x - 2 ^ 63, by omega⟩
      have hr63 : r < 2 ^ 63 := by omega
      have hVx := V_neg hr63
      have hneg : ¬ 0 < V (2 ^ 63 + r) := by rw [hVx]; omega
      rw [if_neg hneg]
      have hr0 : r ≠ 0 := fun e => by subst e; exact h0 (by decide)
      obtain ⟨s, rfl⟩ : ∃ s, r = s + 1 := ⟨r - 1, by omega⟩
      have hm : (2 ^ 63 + (s + 1)) % 2 ^ 63 = s + 1 := by omega
      rw [hm] at hrung
      rw [hVx, Int.natAbs_neg, Int.natAbs_natCast] at hmag
      have hms : rmag s ≤ 2 ^ (52 + b) := by rw [rmag_succ] at hmag; exact Nat.le_trans (Nat.le_add_right _ _) hmag
      have hs := step_small hms
      have e : 2 ^ 63 + (s + 1) - 1 = 2 ^ 63 + s := by omega
      rw [e]
      refine ⟨⟨by omega, by omega⟩, s / 2 ^ 52 - 1, by omega, ?_⟩
      rw [V_neg (by omega), ← hv, hVx, rmag_succ, Int.natCast_add]
      omega

/-- Rounded, a positive number stays positive and is at most doubled. -/
theorem near_bounds (neg : Bool) {mag : Nat} (hm : mag ≠ 0) {place : Int} (hp : -1074 ≤ place) :
    0 < keptOf neg mag place * 2 ^ (last mag place + 1074).toNat ∧ keptOf neg mag place * 2 ^ (last mag place + 1074).toNat ≤ 2 * (mag * 2 ^ (place + 1074).toNat) := by
  obtain ⟨hk1, hk2⟩ := kept_bounds neg hm place
  obtain ⟨e1, e2⟩ := cut_err neg (mag <<< (place - last mag place).toNat) (last mag place - place).toNat
  have hl0 : -1074 ≤ last mag place := by unfold last; omega
  have hkd : keptOf neg mag place = Toward.even.cut neg (mag <<< (place - last mag place).toNat) (last mag place - place).toNat := rfl
  rw [← hkd] at e1 e2
  rw [Nat.shiftLeft_eq] at e1 e2
  generalize keptOf neg mag place = k at *
  generalize last mag place = l at *
  by_cases hs : l ≤ place
  · have h0 : (l - place).toNat = 0 := by omega
    rw [h0] at e1 e2
    simp only [Nat.pow_zero, Nat.mul_one] at e1 e2
    have hk : k = mag * 2 ^ (place - l).toNat := by omega
    have e3 : k * 2 ^ (l + 1074).toNat = mag * 2 ^ (place + 1074).toNat := by
      rw [hk, Nat.mul_assoc, ← Nat.pow_add]; congr 2; omega
    rw [e3]
    have : 0 < mag * 2 ^ (place + 1074).toNat := Nat.mul_pos (by omega) (Nat.two_pow_pos _)
    omega
  · have h0 : (place - l).toNat = 0 := by omega
    rw [h0] at e1 e2
    simp only [Nat.pow_zero, Nat.mul_one] at e1 e2
    have hk : 2 ^ 52 ≤ k := by rcases hk2 with h | h <;> omega
    refine ⟨Nat.mul_pos (by omega) (Nat.two_pow_pos _), ?_⟩
    have e3 : (l + 1074).toNat = (l - place).toNat + (place + 1074).toNat := by omega
    rw [e3, Nat.pow_add, ← Nat.mul_assoc, ← Nat.mul_assoc]
    refine Nat.mul_le_mul_right _ ?_
    generalize 2 ^ (l - place).toNat = g at *
    have hg : g ≤ k * g := Nat.le_mul_of_pos_left _ (by omega)
    omega

/-- What stands a little above a whole number, less that number: still little, and above 0. -/
theorem sub_near {p y : Nat} {n : Int} {k : Nat} (hp : Fin p) (hv : V p = n * 2 ^ U1 + ((2 ^ k : Nat) : Int)) (hk : k ≤ 1045) (hy : FI y n) :
    ∃ r, double.sub p y = some r ∧ Fin r ∧ 0 < V r ∧ V r ≤ ((2 ^ (k + 1) : Nat) : Int) := by
  obtain ⟨s, m, i, h1, h2, h3, _⟩ := read_fin hp
  obtain ⟨t, l, j, h4, h5, h6, _⟩ := read_fin hy.1
  rw [hy.2] at h6
  refine ⟨double.write ((Datum.number (if signed s m (i - min i j).toNat + signed (!t) l (j - min i j).toNat = 0 then s && !t else decide (signed s m (i - min i j).toNat + signed (!t) l (j - min i j).toNat < 0)) (signed s m (i - min i j).toNat + signed (!t) l (j - min i j).toNat).natAbs (min i j))), ?_, ?_⟩
  · unfold Format.sub
    rw [h1, h4]; rfl
  · generalize htot : signed s m (i - min i j).toNat + signed (!t) l (j - min i j).toNat = tot
    have e1 : (i + 1074).toNat = (i - min i j).toNat + (min i j + 1074).toNat := by omega
    have e2 : (j + 1074).toNat = (j - min i j).toNat + (min i j + 1074).toNat := by omega
    have h7 : signed (!t) l (j + 1074).toNat = -(n * 2 ^ U1) := by rw [signed_not, h6]
    have hkey : tot * 2 ^ (min i j + 1074).toNat = ((2 ^ k : Nat) : Int) := by
      have : signed s m (i + 1074).toNat + signed (!t) l (j + 1074).toNat = ((2 ^ k : Nat) : Int) := by rw [h3, h7, hv]; omega
      rw [e1, e2, signed_add, signed_add, ← Int.add_mul, htot] at this
      exact this
    have hpk : (0 : Int) < ((2 ^ k : Nat) : Int) := Int.natCast_pos.2 (Nat.two_pow_pos k)
    have htpos : 0 < tot := by
      rcases Int.lt_or_le 0 tot with h | h
      · exact h
      · have := Int.mul_nonneg (show 0 ≤ -tot by omega) (Int.le_of_lt (pow_pos' (min i j + 1074).toNat))
        rw [Int.neg_mul] at this; omega
    have hnat : tot.natAbs * 2 ^ (min i j + 1074).toNat = 2 ^ k := by
      have := congrArg Int.natAbs hkey
      rw [Int.natAbs_mul, natAbs_pow2, Int.natAbs_natCast] at this
      exact this
    have hm0 : tot.natAbs ≠ 0 := by omega
    have hlog : (min i j) + tot.natAbs.log2 ≤ 1022 := by
      have h8 := Nat.log2_self_le hm0
      have h9 : 2 ^ tot.natAbs.log2 * 2 ^ (min i j + 1074).toNat ≤ 2 ^ k := by rw [← hnat]; exact Nat.mul_le_mul_right _ h8
      rw [← Nat.pow_add] at h9
      have h10 := (Nat.pow_le_pow_iff_right (by decide : 1 < 2)).1 h9
      omega
    rw [if_neg (by omega), decide_eq_false (by omega)]
    show Fin (double.nearest false tot.natAbs (min i j)) ∧ 0 < V (double.nearest false tot.natAbs (min i j)) ∧ V (double.nearest false tot.natAbs (min i j)) ≤ _
    obtain ⟨h11, h12⟩ := nearest_V false hm0 (place := min i j) hlog
    obtain ⟨h13, h14⟩ := near_bounds false hm0 (place := min i j) (by omega)
    refine ⟨h11, ?_, ?_⟩
    · rw [h12]; simp only [Bool.false_eq_true, if_false]; omega
    · rw [h12]; simp only [Bool.false_eq_true, if_false]
      rw [hnat] at h14
      rw [Nat.pow_succ]; omega

/-- What is little stays little when it is divided by a whole number, with that one's sign (or it becomes 0). -/
theorem div_little {x y : Nat} {d : Int} {k : Nat} (hx : Fin x) (h0 : 0 < V x) (hk : V x ≤ ((2 ^ k : Nat) : Int)) (hk2 : k ≤ 1047) (hy : FI y d) (hd : d ≠ 0) :
    ∃ r, double.div x y = some r ∧ Fin r ∧ (0 < d → 0 ≤ V r) ∧ (d < 0 → V r ≤ 0) ∧ (V r).natAbs ≤ 2 ^ (k + 1) := by
  obtain ⟨s, m, i, h1, h2, h3, hm⟩ := read_fin hx
  obtain ⟨t, n, j, h4, h5, h6, hn⟩ := read_fin hy.1
  rw [hy.2] at h6
  have hmv : m * 2 ^ (i + 1074).toNat = (V x).natAbs := by rw [← h3, signed_natAbs]
  have hnb : n * 2 ^ (j + 1074).toNat = d.natAbs * 2 ^ U1 := by
    have := congrArg Int.natAbs h6
    rw [signed_natAbs, Int.natAbs_mul, natAbs_pow2] at this
    exact this
  have hm0 : m ≠ 0 := fun e => by rw [e, Nat.zero_mul] at hmv; omega
  have hn0 : n ≠ 0 := fun e => by
    rw [e, Nat.zero_mul] at hnb
    rcases Nat.mul_eq_zero.1 hnb.symm with h | h
    · omega
    · exact absurd h (Nat.ne_of_gt (Nat.two_pow_pos _))
  have hj := place_lo h5 hn (show d.natAbs ≠ 0 by omega) hnb
  have hs : s = false := by
    cases s
    · rfl
    · rw [signed_mag] at h3
      simp only [if_true] at h3
      omega
  have ht : t = decide (d < 0) := by
    have hp := pow_pos' U1
    rw [signed_mag] at h6
    cases t
    · simp only [Bool.false_eq_true, if_false] at h6
      have h7 : 0 ≤ d * 2 ^ U1 := by rw [← h6]; exact Int.natCast_nonneg _
      have : ¬ d < 0 := fun hneg => by have := Int.mul_neg_of_neg_of_pos hneg hp; omega
      exact (decide_eq_false this).symm
    · simp only [if_true] at h6
      have h9 : d * 2 ^ U1 ≤ 0 := by rw [← h6]; exact Int.neg_nonpos_of_nonneg (Int.natCast_nonneg _)
      have : d < 0 := by
        rcases Int.lt_or_le d 0 with h10 | h10
        · exact h10
        · have : 0 < d := by omega
          have := Int.mul_pos this hp; omega
      exact (decide_eq_true this).symm
  have hU : U1 = 1074 := rfl
  -- the quotient's digits
  have hlm : m.log2 ≤ 52 := by have := (Nat.log2_lt hm0).2 hm; omega
  have hln : n.log2 ≤ 52 := by have := (Nat.log2_lt hn0).2 hn; omega
  have hmore : 54 + n.log2 - m.log2 + m.log2 = 54 + n.log2 := by omega
  generalize hmo : 54 + n.log2 - m.log2 = more at *
  refine ⟨double.nearest (s ^^ t) (2 * (m <<< more / n) + (m <<< more % n != 0).toNat) (i - j - more - 1), ?_, ?_⟩
  · unfold Format.div
    rw [h1, h4]
    show Option.map double.write (Datum.quotient (52 + 2) _ _) = _
    unfold Datum.quotient
    simp only [hn0, if_false]
    rw [show 52 + 2 + n.log2 - m.log2 = more from hmo]
    rfl
  · rw [Nat.shiftLeft_eq]
    generalize hdv : m * 2 ^ more = dv
    have hm1 := Nat.log2_self_le hm0
    have hm2 : m < 2 ^ (m.log2 + 1) := Nat.lt_log2_self
    have hn1 := Nat.log2_self_le hn0
    have hn2 : n < 2 ^ (n.log2 + 1) := Nat.lt_log2_self
    have hdv1 : 2 ^ (54 + n.log2) ≤ dv := by
      rw [← hdv, ← hmore, Nat.add_comm more, Nat.pow_add]
      exact Nat.mul_le_mul_right _ hm1
    have hdv2 : dv < 2 ^ (55 + n.log2) := by
      rw [← hdv, show 55 + n.log2 = (m.log2 + 1) + more by omega, Nat.pow_add]
      exact Nat.mul_lt_mul_of_pos_right hm2 (Nat.two_pow_pos _)
    have hq1 : 2 ^ 53 ≤ dv / n := by
      rw [Nat.le_div_iff_mul_le (by omega)]
      have h8 : 2 ^ 53 * n ≤ 2 ^ 53 * 2 ^ (n.log2 + 1) := Nat.mul_le_mul_left _ (by omega)
      rw [← Nat.pow_add, show 53 + (n.log2 + 1) = 54 + n.log2 by omega] at h8
      omega
    have hq2 : dv / n < 2 ^ 55 := by
      rw [Nat.div_lt_iff_lt_mul (by omega)]
      have h8 : 2 ^ 55 * 2 ^ n.log2 ≤ 2 ^ 55 * n := Nat.mul_le_mul_left _ hn1
      rw [← Nat.pow_add] at h8
      omega
    have hb1 : (dv % n != 0).toNat ≤ 1 := Bool.toNat_le _
    have hQn : (2 * (dv / n) + (dv % n != 0).toNat) * n ≤ 2 * dv + n := by
      have h8 : dv / n * n ≤ dv := Nat.div_mul_le_self _ _
      have h9 : (dv % n != 0).toNat * n ≤ 1 * n := Nat.mul_le_mul_right _ hb1
      rw [Nat.add_mul, Nat.mul_assoc]
      omega
    generalize hQ : 2 * (dv / n) + (dv % n != 0).toNat = Q at *
    have hQ0 : Q ≠ 0 := by omega
    have hQ1 : 2 ^ 54 ≤ Q := by omega
    have hQ2 : Q < 2 ^ 57 := by omega
    have hQl : 54 ≤ Q.log2 := (Nat.le_log2 hQ0).2 hQ1
    have hQl2 : Q.log2 ≤ 56 := by have := (Nat.log2_lt hQ0).2 hQ2; omega
    -- where x stands
    have hi : i + m.log2 ≤ k - 1074 := by
      have h8 : 2 ^ m.log2 * 2 ^ (i + 1074).toNat ≤ 2 ^ k := by
        refine Nat.le_trans (Nat.mul_le_mul_right _ hm1) ?_
        rw [hmv]; omega
      rw [← Nat.pow_add] at h8
      have h10 := (Nat.pow_le_pow_iff_right (by decide : 1 < 2)).1 h8
      omega
    generalize hpl : i - j - (more : Int) - 1 = pl at *
    have hlog : pl + Q.log2 ≤ 1022 := by omega
    obtain ⟨h11, h12⟩ := nearest_V (s ^^ t) hQ0 (place := pl) hlog
    obtain ⟨hk1, hk2'⟩ := kept_bounds (s ^^ t) hQ0 pl
    obtain ⟨e1, e2⟩ := cut_err (s ^^ t) (Q <<< (pl - last Q pl).toNat) (last Q pl - pl).toNat
    have hkd : keptOf (s ^^ t) Q pl = Toward.even.cut (s ^^ t) (Q <<< (pl - last Q pl).toNat) (last Q pl - pl).toNat := rfl
    rw [← hkd, Nat.shiftLeft_eq] at e1
    have hl1 : pl + 2 ≤ last Q pl := by unfold last; omega
    have hl0 : -1074 ≤ last Q pl := by unfold last; omega
    generalize keptOf (s ^^ t) Q pl = kp at *
    generalize last Q pl = l at *
    have hz : (pl - l).toNat = 0 := by omega
    rw [hz, Nat.pow_zero, Nat.mul_one] at e1
    -- (kp - 1) * 2 ^ D * n <= 2 dv
    have hmain : (kp - 1) * (2 ^ (l - pl).toNat * n) ≤ 2 * dv := by
      have hD : 4 ≤ 2 ^ (l - pl).toNat := by
        have : 2 ^ 2 ≤ 2 ^ (l - pl).toNat := Nat.pow_le_pow_right (by decide) (by omega)
        omega
      generalize 2 ^ (l - pl).toNat = g at *
      have h8 : 2 * (kp * g) * n ≤ (2 * Q + g) * n := Nat.mul_le_mul_right _ e1
      rw [Nat.add_mul, Nat.mul_assoc 2 Q n] at h8
      have h9 : 4 * n ≤ g * n := Nat.mul_le_mul_right _ hD
      rcases Nat.eq_zero_or_pos kp with hkp | hkp
      · subst hkp; simp
      · obtain ⟨c, rfl⟩ : ∃ c, kp = c + 1 := ⟨kp - 1, by omega⟩
        rw [Nat.add_sub_cancel]
        have h10 : 2 * ((c + 1) * g) * n = 2 * (c * (g * n)) + 2 * (g * n) := by
          rw [Nat.add_mul, Nat.one_mul, Nat.mul_add, Nat.add_mul, Nat.mul_assoc 2 (c * g) n, Nat.mul_assoc c g n, Nat.mul_assoc 2 g n]
        rw [h10] at h8
        omega
    -- in least units
    have hX : (kp - 1) * 2 ^ (l + 1074).toNat * d.natAbs ≤ (V x).natAbs := by
      have h8 : (kp - 1) * (2 ^ (l - pl).toNat * n) * 2 ^ ((j + 1074).toNat + more + 1 + (l + 1074).toNat) ≤ 2 * dv * 2 ^ ((j + 1074).toNat + more + 1 + (l + 1074).toNat) := Nat.mul_le_mul_right _ hmain
      have e3 : (l - pl).toNat + (i + 1074).toNat = (l + 1074).toNat + (j + 1074).toNat + more + 1 - 1074 + 0 ∨ True := .inr trivial
      have e4 : (l - pl).toNat + (i + 1074).toNat + U1 = (j + 1074).toNat + more + 1 + (l + 1074).toNat := by rw [hU]; omega
      have h9 : (kp - 1) * (2 ^ (l - pl).toNat * n) * 2 ^ ((j + 1074).toNat + more + 1 + (l + 1074).toNat) = ((kp - 1) * 2 ^ (l + 1074).toNat * d.natAbs) * (2 ^ U1 * 2 ^ ((l - pl).toNat + more + 1)) := by
        calc (kp - 1) * (2 ^ (l - pl).toNat * n) * 2 ^ ((j + 1074).toNat + more + 1 + (l + 1074).toNat)
            = (kp - 1) * (2 ^ (l - pl).toNat * n) * (2 ^ (j + 1074).toNat * 2 ^ (more + 1) * 2 ^ (l + 1074).toNat) := by rw [← Nat.pow_add, ← Nat.pow_add]; rfl
          _ = (kp - 1) * 2 ^ (l + 1074).toNat * (n * 2 ^ (j + 1074).toNat) * (2 ^ (l - pl).toNat * 2 ^ (more + 1)) := by ac_rfl
          _ = _ := by
            rw [hnb, ← Nat.pow_add, Nat.add_assoc]
            generalize 2 ^ U1 = u
            generalize 2 ^ ((l - pl).toNat + (more + 1)) = u2
            ac_rfl
      have h10 : 2 * dv * 2 ^ ((j + 1074).toNat + more + 1 + (l + 1074).toNat) = (V x).natAbs * (2 ^ U1 * 2 ^ ((l - pl).toNat + more + 1)) := by
        rw [← hdv, ← hmv, ← e4]
        rw [Nat.pow_add _ _ U1, Nat.pow_add _ (l - pl).toNat, Nat.pow_add _ ((l - pl).toNat + more) 1, Nat.pow_add _ (l - pl).toNat more, Nat.pow_one]
        generalize 2 ^ U1 = u
        generalize (V x).natAbs = vx at *
        ac_rfl
      rw [h9, h10] at h8
      exact Nat.le_of_mul_le_mul_right h8 (Nat.mul_pos (Nat.two_pow_pos _) (Nat.two_pow_pos _))
    have hb : kp * 2 ^ (l + 1074).toNat ≤ 2 ^ (k + 1) := by
      have h8 : (kp - 1) * 2 ^ (l + 1074).toNat ≤ (V x).natAbs := Nat.le_trans (Nat.le_mul_of_pos_right _ (by omega)) hX
      have h9 : (V x).natAbs ≤ 2 ^ k := by omega
      have h10 : 0 < (V x).natAbs := by omega
      rcases hk2' with h | h
      · have : (l + 1074).toNat = 0 := by omega
        rw [this, Nat.pow_zero, Nat.mul_one] at h8 ⊢
        rw [Nat.pow_succ]; omega
      · generalize 2 ^ (l + 1074).toNat = g at *
        obtain ⟨c, rfl⟩ : ∃ c, kp = c + 1 := ⟨kp - 1, by omega⟩
        rw [Nat.add_sub_cancel] at h8
        have : g ≤ c * g := Nat.le_mul_of_pos_left _ (by omega)
        rw [Nat.add_mul, Nat.one_mul, Nat.pow_succ]; omega
    rw [hs] at h11 h12
    rw [hs]
    refine ⟨h11, fun hd0 => ?_, fun hd0 => ?_, ?_⟩
    · rw [h12, ht, decide_eq_false (by omega)]
      exact Int.natCast_nonneg _
    · rw [h12, ht, decide_eq_true hd0]
      exact Int.neg_nonpos_of_nonneg (Int.natCast_nonneg _)
    · rw [h12]
      split
      · rw [Int.natAbs_neg, Int.natAbs_natCast]; exact hb
      · rw [Int.natAbs_natCast]; exact hb

/-- The quotient of two whole numbers is not little. -/
theorem QV_large {v a b : Int} (h : QV v a b) (ha : a ≠ 0) (hb : b.natAbs ≤ 2 ^ 24) : 2 ^ (U1 - 25) ≤ v.natAbs ∧ (v < 0 ↔ (decide (a < 0) ^^ decide (b < 0)) = true) := by
  rcases h with ⟨h, _⟩ | ⟨_, k, E, hd, hv⟩
  · exact absurd h ha
  · have hpos : 0 < k * 2 ^ E := Nat.mul_pos (by have := hd.lo; omega) (Nat.two_pow_pos _)
    have hlow : 2 ^ (U1 - 25) ≤ k * 2 ^ E := by
      have h1 := hd.dn
      have h2 := hd.lo
      have hU : U1 = (U1 - 25) + 25 := by decide
      have h3 : 2 * k * (2 ^ E * b.natAbs) + 2 ^ E * b.natAbs ≤ 4 * (k * 2 ^ E * b.natAbs) := by
        have h4 : 2 * k * (2 ^ E * b.natAbs) = 2 * (k * 2 ^ E * b.natAbs) := by ac_rfl
        have h5 : 2 ^ E * b.natAbs ≤ k * (2 ^ E * b.natAbs) := Nat.le_mul_of_pos_left _ (by omega)
        rw [← Nat.mul_assoc] at h5
        omega
      have h7 : k * 2 ^ E * b.natAbs ≤ k * 2 ^ E * 2 ^ 24 := Nat.mul_le_mul_left _ hb
      have h8 : 2 ^ U1 ≤ a.natAbs * 2 ^ U1 := Nat.le_mul_of_pos_left _ (by omega)
      rw [hU, Nat.pow_add] at h8
      rw [hU] at h1
      rw [Nat.pow_add] at h1
      generalize 2 ^ (U1 - 25) = u at *
      omega
    refine ⟨?_, ?_⟩
    · rw [hv]
      split
      · rw [Int.natAbs_neg, Int.natAbs_natCast]; exact hlow
      · rw [Int.natAbs_natCast]; exact hlow
    · rw [hv]
      split
      · rename_i h; simp only [h, iff_true]; omega
      · rename_i h; simp only [h]; constructor
        · intro h'; omega
        · intro h'; cases h'

end Go.Fl

/- math's functions that Segment.Raycast reaches. -/
namespace Go.Proofs.Tryz.Sx
open Go Go.Sx Go.Proofs Go.Fl
set_option maxRecDepth 100000

def frombitsF : PF := fun
  | [.int .u64 n] => some (.flt .f64 n.toNat, none)
  | _ => none
theorem frombits : PureOk Tryz.prog 109 frombitsF := by
  refine pure_of_extern Tryz.func109 (by kernel_rfl) (by kernel_rfl) (by kernel_rfl) (e := Extern.MathFloatBits.float64frombits) (by kernel_rfl) ?_
  intro args v p h hp
  unfold frombitsF at h
  split at h
  · injection h with h; injection h with h1 h2; subst h1; subst h2
    exact ⟨rfl, fun ρ w => rfl⟩
  · cases h

def bitsF : PF := fun
  | [.flt .f64 n] => some (.int .u64 n, none)
  | _ => none
theorem bits : PureOk Tryz.prog 110 bitsF := by
  refine pure_of_extern Tryz.func110 (by kernel_rfl) (by kernel_rfl) (by kernel_rfl) (e := Extern.MathFloatBits.float64bits) (by kernel_rfl) ?_
  intro args v p h hp
  unfold bitsF at h
  split at h
  · injection h with h; injection h with h1 h2; subst h1; subst h2
    exact ⟨rfl, fun ρ w => rfl⟩
  · cases h

def GM : Ctx := ⟨⟨tys, []⟩, [(109, pureCon frombitsF), (110, pureCon bitsF)]⟩
theorem gM : CtxOk Tryz.prog GM := ⟨⟨tysOk, FlatsOk.nil⟩, GamOk.cons (.pure frombits) (GamOk.cons (.pure bits) GamOk.nil), by kernel_rfl⟩

def isNaNF : PF := fun
  | [.flt .f64 x] => some (.bool (fNe .f64 x x), none)
  | _ => none
theorem isNaN : PureOk Tryz.prog 106 isNaNF := by
  refine pure_of_run gM Tryz.func106 rfl (by kernel_rfl) ?_
  intro args v p h hp
  unfold isNaNF at h
  split at h
  · injection h with h; injection h with h1 h2; subst h1; subst h2
    exact ⟨rfl, rfl, rfl, rfl⟩
  · cases h

def infF : PF := fun
  | [.int .i64 s] => some (.flt .f64 infw, some (s = 1))
  | _ => none
theorem inf : PureOk Tryz.prog 100 infF := by
  refine pure_of_run gM Tryz.func100 rfl (by kernel_rfl) ?_
  intro args v p h hp
  unfold infF at h
  split at h
  · injection h with h; injection h with h1 h2; subst h1; subst h2
    have hp : _ = _ := hp
    subst hp
    refine ⟨rfl, rfl, rfl, ?_⟩
    refine And.intro ?_ ?_
    · intro _; exact rfl
    · intro h; exact absurd h (by decide)
  · cases h

def copyF : PF := fun
  | [.flt .f64 x, .flt .f64 y] => some (.flt .f64 1, some (x = 1 ∧ y = infw))
  | _ => none
theorem copysign : PureOk Tryz.prog 108 copyF := by
  refine pure_of_run gM Tryz.func108 rfl (by kernel_rfl) ?_
  intro args v p h hp
  unfold copyF at h
  split at h
  · injection h with h; injection h with h1 h2; subst h1; subst h2
    have hp : _ ∧ _ := hp
    obtain ⟨rfl, rfl⟩ := hp
    refine ⟨rfl, rfl, rfl, ?_⟩
    show (_ : Nat) = _
    kernel_rfl
  · cases h

def GN : Ctx := ⟨⟨tys, []⟩, [(109, pureCon frombitsF), (110, pureCon bitsF), (106, pureCon isNaNF), (108, pureCon copyF)]⟩
theorem gN : CtxOk Tryz.prog GN := ⟨⟨tysOk, FlatsOk.nil⟩, GamOk.cons (.pure frombits) (GamOk.cons (.pure bits) (GamOk.cons (.pure isNaN) (GamOk.cons (.pure copysign) GamOk.nil))), by kernel_rfl⟩

def nextF : PF := fun
  | [.flt .f64 x, .flt .f64 y] => some (.flt .f64 (nxt x), some (y = infw ∧ Fl.Fin x ∧ x + 1 < 18446744073709551616))
  | _ => none
theorem next : PureOk Tryz.prog 99 nextF := by
  refine pure_of_run gN Tryz.func99 rfl (by kernel_rfl) ?_
  intro args v p h hp
  unfold nextF at h
  split at h
  · rename_i x y
    injection h with h; injection h with h1 h2; subst h1; subst h2
    have hp : _ ∧ _ ∧ _ := hp
    obtain ⟨rfl, hx, hlt⟩ := hp
    refine ⟨rfl, rfl, rfl, ?_⟩
    have e1 : fNe .f64 x x = false := fne_self hx
    have e2 : fNe .f64 infw infw = false := by kernel_rfl
    have e3 : fEq .f64 x infw = false := feq_inf hx
    have e4 : fEq .f64 x 0 = decide (V x = 0) := feq_zero hx
    have e5 : fGt .f64 infw x = true := fgt_inf hx
    have e6 : fGt .f64 x 0 = decide (0 < V x) := fgt_zero hx
    repeat' (first | (intro h; first | (exact absurd h (by simp only [e1, e2, e3, e5]; decide)) | skip) | (refine And.intro ?_ ?_))
    all_goals (show (_ : Nat) = _)
    · rfl
    · rfl
    · rename_i h
      rw [e4] at h
      simp [nxt, of_decide_eq_true h]
    · rename_i h
      have h0 : fEq .f64 x 0 = false := by assumption
      rw [e4] at h0
      rw [e5, e6] at h
      have h0 := of_decide_eq_false h0
      have h : 0 < V x := by simpa using h
      rw [wrapu64 (by omega) (by omega)]
      simp only [nxt, h0, h, if_true, if_false]
      omega
    · rename_i h
      have h0 : fEq .f64 x 0 = false := by assumption
      rw [e4] at h0
      rw [e5, e6] at h
      have h0 := of_decide_eq_false h0
      have h : ¬ 0 < V x := by simpa using h
      have hx0 : x ≠ 0 := fun e => h0 (by rw [e]; exact V_zero)
      rw [wrapu64 (by omega) (by omega)]
      simp only [nxt, h0, h, if_false]
      omega
  · cases h

end Go.Proofs.Tryz.Sx

/- '==' at small structs and arrays of numbers. -/
namespace Go.Sx
open Go.RowKit

def numK (k : Bool) : TK → Bool
  | .flt _ => k
  | .int _ => !k
  | _ => false

theorem lEq_cons {x : SV} {xs ys : List SV} {b : Bool} (h : lEq (x :: xs) ys = some b) : ∃ y ys' b0 b1, ys = y :: ys' ∧ sEq x y = some b0 ∧ lEq xs ys' = some b1 ∧ b = (b0 && b1) := by
  cases ys with
  | nil => simp [lEq] at h
  | cons y ys' =>
    simp only [lEq] at h
    split at h
    · rename_i b0 h0
      split at h
      · rename_i b1 h1
        simp only [Option.some.injEq] at h
        exact ⟨y, ys', b0, b1, rfl, h0, h1, h.symm⟩
      · cases h
    · cases h

theorem lEq_nil {ys : List SV} {b : Bool} (h : lEq [] ys = some b) : ys = [] ∧ b = true := by
  cases ys with
  | nil => simp only [lEq, Option.some.injEq] at h; exact ⟨rfl, h.symm⟩
  | cons y r => simp [lEq] at h

theorem sEq_one {x y : SV} {b : Bool} (h : sEq x y = some b) : (∃ k a c, x = .int k a ∧ y = .int k c ∧ b = (a == c)) ∨ (∃ k a c, x = .flt k a ∧ y = .flt k c ∧ b = fEq k a c) := by
  unfold sEq at h
  split at h
  · split at h
    · rename_i he
      have := kEq_eq he
      subst this
      simp only [Option.some.injEq] at h
      exact .inl ⟨_, _, _, rfl, rfl, h.symm⟩
    · cases h
  · split at h
    · rename_i he
      have := fkEq_eq he
      subst this
      simp only [Option.some.injEq] at h
      exact .inr ⟨_, _, _, rfl, rfl, h.symm⟩
    · cases h
  · cases h

section
variable {P : Program} (w : World) (ρ : Rho)

theorem run_equalIn_num {d t : Nat} {ti : TI} (ht : TOk P t ti) {k : Bool} (hk : numK k ti.tk = true) {x y : SV} {b : Bool} (hx : hasK [k] [x] = true) (h : sEq x y = some b) :
    (Op.equalIn (d + 1) t (x.den ρ) (y.den ρ)).run P w = .ok b w := by
  obtain ⟨dd, hd, hd2⟩ := ht.desc
  rcases sEq_one h with ⟨k1, a, c, rfl, rfl, rfl⟩ | ⟨k1, a, c, rfl, rfl, rfl⟩
  · simp only [hasK, Bool.and_true, Bool.not_eq_true'] at hx
    subst hx
    cases dd <;> simp only [tkOf] at hd2 <;> rw [← hd2] at hk <;> simp [numK] at hk
    unfold Op.equalIn
    simp [run_underlying hd, SV.den]
  · simp only [hasK, Bool.and_true] at hx
    subst hx
    cases dd <;> simp only [tkOf] at hd2 <;> rw [← hd2] at hk <;> simp [numK] at hk
    unfold Op.equalIn
    simp [run_underlying hd, SV.den]
    rfl

theorem num_flat {ti : TI} {k : Bool} (hk : numK k ti.tk = true) : ti.isAgg = false := by
  unfold TI.isAgg
  split <;> rename_i hh <;> simp_all [numK]

/-- Equal as values, at every depth from D on. -/
def FE (P : Program) (t : Nat) (n : List Bool) (D : Nat) : Prop :=
  ∀ (d : Nat) (xs ys : List SV) (b : Bool), hasK n xs = true → lEq xs ys = some b → ∀ (ρ : Rho) (w : World), (Op.equalIn (d + D) t (.agg (denL ρ xs).toArray) (.agg (denL ρ ys).toArray)).run P w = .ok b w

theorem FE.flat {t : Nat} {n : List Bool} {D : Nat} (h : FE P t n D) (hg : P.eqGuardType P.depth t = false) (hD : D ≤ 10000) : FlatEq P t n :=
  ⟨hg, fun xs ys b hx hb ρ w => by
    have := h (10000 - D) xs ys b hx hb ρ w
    rw [Nat.sub_add_cancel hD] at this
    exact this⟩

/-- A struct of two numbers. -/
theorem fe_struct2 {T : Tys} (hT : TysOk P T) {t e0 e1 : Nat} {f0 f1 : Field} {t0 t1 : TI} {k0 k1 : Bool} (hu : P.underlying t = some (.struct #[f0, f1])) (hp : P.stoodInHeld t = false)
    (hn0 : f0.name ≠ "_") (hn1 : f1.name ≠ "_") (h0 : f0.type = e0 ∧ f0.offset = 0) (h1 : f1.type = e1 ∧ f1.offset = 1) (ht0 : ty T e0 = some t0) (ht1 : ty T e1 = some t1)
    (hk0 : numK k0 t0.tk = true) (hk1 : numK k1 t1.tk = true) : FE P t [k0, k1] 2 := by
  intro d xs ys b hx h ρ w
  have hf : P.fieldsOf t = #[f0, f1] := by simp [Program.fieldsOf, hu]
  match xs with
  | [] => simp [hasK] at hx
  | [_] => simp [hasK] at hx; split at hx <;> simp at hx
  | _ :: _ :: _ :: _ => simp [hasK] at hx; split at hx <;> (try split at hx) <;> simp at hx
  | [x0, x1] =>
    obtain ⟨y0, ys', b0, c, rfl, e0', h', rfl⟩ := lEq_cons h
    obtain ⟨y1, ys'', b1, c', rfl, e1', h'', rfl⟩ := lEq_cons h'
    obtain ⟨rfl, rfl⟩ := lEq_nil h''
    have hx0 : hasK [k0] [x0] = true := by
      rcases sEq_one e0' with ⟨k, a, c, rfl, rfl, rfl⟩ | ⟨k, a, c, rfl, rfl, rfl⟩ <;> simp_all [hasK]
    have hx1 : hasK [k1] [x1] = true := by
      rcases sEq_one e0' with ⟨k, a, c, rfl, rfl, rfl⟩ | ⟨k, a, c, rfl, rfl, rfl⟩ <;> rcases sEq_one e1' with ⟨k, a, c, rfl, rfl, rfl⟩ | ⟨k, a, c, rfl, rfl, rfl⟩ <;> simp_all [hasK]
    have p0 := fun (cs : List SV) (v : SV) (hc : cs[0]? = some v) => (evPart_sound (U := fun _ => True) hT (cs := cs) (by rw [bdL_iff]; exact fun v _ => SV.bd_all v) (e := e0) (o := 0) (v := v) (by simp [evPart, ht0, num_flat hk0, getL_eq, hc]) ρ w).1
    have p1 := fun (cs : List SV) (v : SV) (hc : cs[1]? = some v) => (evPart_sound (U := fun _ => True) hT (cs := cs) (by rw [bdL_iff]; exact fun v _ => SV.bd_all v) (e := e1) (o := 1) (v := v) (by simp [evPart, ht1, num_flat hk1, getL_eq, hc]) ρ w).1
    rw [run_equalIn_agg w (d + 1) t _ _ (by rw [hf]; exact hu) hp, hf]
    simp only [Op.eqFields, hn0, hn1, ne_eq, not_false_eq_true, if_true, h0.1, h0.2, h1.1, h1.2, Sem.run_bind]
    rw [p0 _ x0 rfl]
    simp only [Result.andThen_ok]
    rw [p0 _ y0 rfl]
    simp only [Result.andThen_ok, run_equalIn_num w ρ (hT _ _ ht0) hk0 hx0 e0']
    cases b0
    · simp
    · simp only [Bool.not_true, Bool.false_eq_true, if_false, Sem.run_bind]
      rw [p1 _ x1 rfl]
      simp only [Result.andThen_ok]
      rw [p1 _ y1 rfl]
      simp only [Result.andThen_ok, run_equalIn_num w ρ (hT _ _ ht1) hk1 hx1 e1']
      cases b1 <;> simp

end
end Go.Sx

/- Quotients as the walk has them: finite, infinite, none. -/
namespace Go.Fl
open Ieee Go.Sx

theorem quo_fin {x y r : Nat} {a b : Int} (h : QuoRel .f64 x y r) (hx : FI x a) (hy : FI y b) (hb : b ≠ 0) (hb2 : b.natAbs < 2 ^ 53) (ha2 : a.natAbs < 2 ^ 53) : Fin r ∧ QV (V r) a b := by
  obtain ⟨q, h1, h2, h3⟩ := div_QV hx hy hb hb2 ha2
  have : floatBits .quo .f64 x y = some q := h1
  unfold QuoRel at h
  rw [this] at h
  subst h
  exact ⟨h2, h3⟩

theorem FI_zero_mag {y : Nat} (hy : FI y 0) : ∃ t j, double.read y = .number t 0 j := by
  obtain ⟨t, n, j, h4, h5, h6, hn⟩ := read_fin hy.1
  rw [hy.2, Int.zero_mul] at h6
  have := congrArg Int.natAbs h6
  rw [signed_natAbs] at this
  rcases Nat.mul_eq_zero.1 this with h | h
  · subst h; exact ⟨t, j, h4⟩
  · exact absurd h (Nat.ne_of_gt (Nat.two_pow_pos _))

theorem read_word_inf (s : Bool) : double.read (double.word s double.infRung) = .infinity s := by cases s <;> decide

theorem quo_inf {x y r : Nat} {a : Int} (h : QuoRel .f64 x y r) (hx : FI x a) (ha : a ≠ 0) (hy : FI y 0) {z : Nat} (hz : Fin z) : fEq .f64 r z = false ∧ fEq .f64 z r = false := by
  obtain ⟨s, m, i, h1, h2, h3, hm⟩ := read_fin hx.1
  obtain ⟨t, j, h4⟩ := FI_zero_mag hy
  have hm0 : m ≠ 0 := fun e => by
    subst e
    rw [hx.2] at h3
    have := congrArg Int.natAbs h3
    rw [signed_natAbs, Nat.zero_mul, Int.natAbs_mul, natAbs_pow2] at this
    rcases Nat.mul_eq_zero.1 this.symm with h | h
    · omega
    · exact absurd h (Nat.ne_of_gt (Nat.two_pow_pos _))
  have hd : floatBits .quo .f64 x y = some (double.word (s ^^ t) double.infRung) := by
    show double.div x y = _
    unfold Format.div
    rw [h1, h4]
    unfold Datum.quotient
    simp only [hm0, if_true, if_false]
    rfl
  unfold QuoRel at h
  rw [hd] at h
  subst h
  obtain ⟨u, l, k, h7, _⟩ := read_fin hz
  constructor
  · unfold fEq
    show (Datum.order (double.read _) (double.read z) == _) = _
    rw [read_word_inf, h7]
    show ((some (if (s ^^ t) then Ordering.lt else Ordering.gt) : Option Ordering) == some .eq) = false
    cases (s ^^ t) <;> rfl
  · unfold fEq
    show (Datum.order (double.read z) (double.read _) == _) = _
    rw [read_word_inf, h7]
    show ((some (if (s ^^ t) then Ordering.gt else Ordering.lt) : Option Ordering) == some .eq) = false
    cases (s ^^ t) <;> rfl

theorem nan_order {r z : Nat} (h : (double.read r).isNaN = true) : fEq .f64 r z = false ∧ fEq .f64 z r = false := by
  cases hr : double.read r with
  | nan s f =>
    constructor
    · unfold fEq
      show (Datum.order (double.read r) (double.read z) == _) = _
      rw [hr]; rfl
    · unfold fEq
      show (Datum.order (double.read z) (double.read r) == _) = _
      rw [hr]
      cases double.read z <;> rfl
  | number s m i => rw [hr] at h; cases h
  | infinity s => rw [hr] at h; cases h

theorem quo_nan {x y r : Nat} (h : QuoRel .f64 x y r) (hx : FI x 0) (hy : FI y 0) {z : Nat} : fEq .f64 r z = false ∧ fEq .f64 z r = false := by
  obtain ⟨s, i, h1⟩ := FI_zero_mag hx
  obtain ⟨t, j, h4⟩ := FI_zero_mag hy
  have hd : floatBits .quo .f64 x y = none := by
    show double.div x y = _
    unfold Format.div
    rw [h1, h4]; rfl
  unfold QuoRel at h
  rw [hd] at h
  exact nan_order h

/-- Two quotients are the same just if the fractions are. -/
theorem QV_iff {v w a b c d : Int} (h1 : QV v a b) (h2 : QV w c d) (hb : b ≠ 0) (hd : d ≠ 0) (hs1 : a.natAbs * d.natAbs ≤ 2 ^ 50) (hs2 : c.natAbs * b.natAbs ≤ 2 ^ 50) : v = w ↔ a * d = c * b := by
  constructor
  · intro hvw
    rcases Int.lt_trichotomy (a * b * (d * d)) (c * d * (b * b)) with h | h | h
    · have := QV_lt h1 h2 hb hd hs1 hs2 h; omega
    · have e1 : a * b * (d * d) = (b * d) * (a * d) := by ac_rfl
      have e2 : c * d * (b * b) = (b * d) * (c * b) := by ac_rfl
      rw [e1, e2] at h
      exact Int.eq_of_mul_eq_mul_left (Int.mul_ne_zero hb hd) h
    · have := QV_lt h2 h1 hd hb hs2 hs1 h; omega
  · exact QV_eq h1 h2 hb hd

/-- Where both divisors have the same sign, the quotients stand to each other as the fractions. -/
theorem QV_le_iff {v w a b c d : Int} (h1 : QV v a b) (h2 : QV w c d) (hbd : 0 < b * d) (hs1 : a.natAbs * d.natAbs ≤ 2 ^ 50) (hs2 : c.natAbs * b.natAbs ≤ 2 ^ 50) : v ≤ w ↔ a * d ≤ c * b := by
  have hb : b ≠ 0 := fun e => by rw [e, Int.zero_mul] at hbd; omega
  have hd : d ≠ 0 := fun e => by rw [e, Int.mul_zero] at hbd; omega
  have e1 : a * b * (d * d) = (b * d) * (a * d) := by ac_rfl
  have e2 : c * d * (b * b) = (b * d) * (c * b) := by ac_rfl
  rcases Int.lt_trichotomy (a * d) (c * b) with h | h | h
  · have h3 := Int.mul_lt_mul_of_pos_left h hbd
    rw [← e1, ← e2] at h3
    have := QV_lt h1 h2 hb hd hs1 hs2 h3
    omega
  · have := QV_eq h1 h2 hb hd h; omega
  · have h3 := Int.mul_lt_mul_of_pos_left h hbd
    rw [← e1, ← e2] at h3
    have := QV_lt h2 h1 hd hb hs2 hs1 h3
    omega

/-- The difference of two whole numbers as the walk asks for it. -/
theorem sub_I {x y : Nat} {a b : Int} (hx : FI x a) (hy : FI y b) (ha : a.natAbs ≤ 2 ^ 22) (hb : b.natAbs ≤ 2 ^ 22) : fok .sub .f64 x y ∧ FI (fop .sub .f64 x y) (a - b) := by
  obtain ⟨r, h1, h2⟩ := FI_sub hx hy (by omega)
  have : floatBits .sub .f64 x y = some r := h1
  unfold fok fop
  rw [this]
  exact ⟨rfl, h2⟩


/-- A little above a whole number: how that stands to whole numbers. -/
theorem near_cmp {n m : Int} {k : Nat} (hk : k ≤ 1045) : (n * 2 ^ U1 + ((2 ^ k : Nat) : Int) < m * 2 ^ U1 ↔ n < m) ∧ (m * 2 ^ U1 < n * 2 ^ U1 + ((2 ^ k : Nat) : Int) ↔ m ≤ n) ∧ n * 2 ^ U1 + ((2 ^ k : Nat) : Int) ≠ m * 2 ^ U1 := by
  have hU : U1 = 1074 := rfl
  have h1 : 2 ^ k < 2 ^ U1 := (Nat.pow_lt_pow_iff_right (by decide)).2 (by omega)
  have h2 : 0 < 2 ^ k := Nat.two_pow_pos k
  have e : (2 : Int) ^ U1 = ((2 ^ U1 : Nat) : Int) := by simp
  rw [e]
  generalize 2 ^ U1 = u at *
  generalize 2 ^ k = t at *
  have hu : (0 : Int) < (u : Int) := by omega
  rcases Int.lt_trichotomy n m with h | h | h
  · have h3 : (n + 1) * (u : Int) ≤ m * u := Int.mul_le_mul_of_nonneg_right (by omega) (by omega)
    rw [Int.add_mul, Int.one_mul] at h3
    omega
  · subst h; omega
  · have h3 : (m + 1) * (u : Int) ≤ n * u := Int.mul_le_mul_of_nonneg_right (by omega) (by omega)
    rw [Int.add_mul, Int.one_mul] at h3
    omega

/-- Near n, a little above. -/
def Near (q : Nat) (n : Int) : Prop := Fin q ∧ ∃ k, k ≤ 1045 ∧ V q = n * 2 ^ U1 + ((2 ^ k : Nat) : Int)

theorem near_eq {q y : Nat} {n m : Int} (hq : Near q n) (hy : FI y m) : fEq .f64 q y = false := by
  obtain ⟨h1, k, hk, h2⟩ := hq
  rw [feq_V h1 hy.1, h2, hy.2]
  exact decide_eq_false (near_cmp hk).2.2
theorem near_lt {q y : Nat} {n m : Int} (hq : Near q n) (hy : FI y m) : fLt .f64 q y = decide (n < m) := by
  obtain ⟨h1, k, hk, h2⟩ := hq
  rw [flt_V h1 hy.1, h2, hy.2]
  exact decide_eq_decide.2 (near_cmp hk).1
theorem near_gt {q y : Nat} {n m : Int} (hq : Near q n) (hy : FI y m) : fGt .f64 q y = decide (m ≤ n) := by
  obtain ⟨h1, k, hk, h2⟩ := hq
  rw [fgt_V h1 hy.1, h2, hy.2]
  exact decide_eq_decide.2 (near_cmp hk).2.1
theorem near_nxt {x : Nat} {n : Int} (h : FI x n) (hn : n.natAbs ≤ 2 ^ 22) : Near (nxt x) n := ⟨(nxt_spec h hn).2.1, (nxt_spec h hn).2.2⟩

end Go.Fl

/- Points and segments of whole numbers: on it, left of it (the plain law of Segment.Raycast). -/
namespace Go.Geo

def cross (a1 a2 b1 b2 p1 p2 : Int) : Int := (b1 - a1) * (p2 - a2) - (b2 - a2) * (p1 - a1)
def btw (a b p : Int) : Prop := (a ≤ p ∧ p ≤ b) ∨ (b ≤ p ∧ p ≤ a)
def On (a1 a2 b1 b2 p1 p2 : Int) : Prop := btw a1 b1 p1 ∧ btw a2 b2 p2 ∧ cross a1 a2 b1 b2 p1 p2 = 0
def Lft (a1 a2 b1 b2 p1 p2 : Int) : Prop := (b2 < a2 ∧ b2 ≤ p2 ∧ p2 < a2 ∧ 0 < cross b1 b2 a1 a2 p1 p2) ∨ (a2 ≤ b2 ∧ a2 ≤ p2 ∧ p2 < b2 ∧ 0 < cross a1 a2 b1 b2 p1 p2)

instance (a b p : Int) : Decidable (btw a b p) := by unfold btw; infer_instance
instance (a1 a2 b1 b2 p1 p2 : Int) : Decidable (On a1 a2 b1 b2 p1 p2) := by unfold On; infer_instance
instance (a1 a2 b1 b2 p1 p2 : Int) : Decidable (Lft a1 a2 b1 b2 p1 p2) := by unfold Lft; infer_instance

section
variable {a1 a2 b1 b2 p1 p2 : Int}

theorem cross_swap : cross b1 b2 a1 a2 p1 p2 = -cross a1 a2 b1 b2 p1 p2 := by
  unfold cross
  have e1 : (a1 - b1) * (p2 - b2) = (b1 - a1) * b2 - (b1 - a1) * p2 := by
    rw [show a1 - b1 = -(b1 - a1) by omega, show p2 - b2 = -(b2 - p2) by omega, Int.neg_mul_neg, Int.mul_sub]
  have e2 : (a2 - b2) * (p1 - b1) = (b2 - a2) * b1 - (b2 - a2) * p1 := by
    rw [show a2 - b2 = -(b2 - a2) by omega, show p1 - b1 = -(b1 - p1) by omega, Int.neg_mul_neg, Int.mul_sub]
  have e3 : (b1 - a1) * (p2 - a2) = (b1 - a1) * p2 - (b1 - a1) * a2 := Int.mul_sub _ _ _
  have e4 : (b2 - a2) * (p1 - a1) = (b2 - a2) * p1 - (b2 - a2) * a1 := Int.mul_sub _ _ _
  have e5 : (b1 - a1) * b2 = b1 * b2 - a1 * b2 := Int.sub_mul _ _ _
  have e6 : (b1 - a1) * a2 = b1 * a2 - a1 * a2 := Int.sub_mul _ _ _
  have e7 : (b2 - a2) * b1 = b2 * b1 - a2 * b1 := Int.sub_mul _ _ _
  have e8 : (b2 - a2) * a1 = b2 * a1 - a2 * a1 := Int.sub_mul _ _ _
  rw [Int.mul_comm b2 b1, Int.mul_comm a2 b1] at e7
  rw [Int.mul_comm b2 a1, Int.mul_comm a2 a1] at e8
  rw [e1, e2, e3, e4]
  omega

theorem btw_swap {a b p : Int} : btw b a p ↔ btw a b p := by unfold btw; omega
theorem On_swap : On b1 b2 a1 a2 p1 p2 ↔ On a1 a2 b1 b2 p1 p2 := by
  unfold On; rw [cross_swap]; constructor <;> rintro ⟨h1, h2, h3⟩ <;> exact ⟨btw_swap.1 h1, btw_swap.1 h2, by omega⟩

/-- On the line, and between the heights: between the sides, too. -/
theorem btw_of_line (h0 : a2 < b2) (h1 : a2 ≤ p2) (h2 : p2 ≤ b2) (h : cross a1 a2 b1 b2 p1 p2 = 0) : btw a1 b1 p1 := by
  unfold cross at h
  have hB : 0 < b2 - a2 := by omega
  have ht0 : 0 ≤ p2 - a2 := by omega
  have ht1 : p2 - a2 ≤ b2 - a2 := by omega
  generalize hBe : b2 - a2 = B at *
  generalize p2 - a2 = t at *
  rcases Int.lt_or_le b1 a1 with hA | hA
  · -- to the left
    refine .inr ⟨?_, ?_⟩
    · rcases Int.lt_or_le p1 b1 with hp | hp
      · have e : (b1 - a1) * B ≤ (b1 - a1) * t := Int.mul_le_mul_of_nonpos_left (by omega) ht1
        have e2 : B * (p1 - a1) < B * (b1 - a1) := Int.mul_lt_mul_of_pos_left (by omega) hB
        rw [Int.mul_comm B (b1 - a1)] at e2
        omega
      · exact hp
    · rcases Int.lt_or_le a1 p1 with hp | hp
      · have e : (b1 - a1) * t ≤ 0 := Int.mul_nonpos_of_nonpos_of_nonneg (by omega) ht0
        have e2 : 0 < B * (p1 - a1) := Int.mul_pos hB (by omega)
        omega
      · exact hp
  · refine .inl ⟨?_, ?_⟩
    · rcases Int.lt_or_le p1 a1 with hp | hp
      · have e : 0 ≤ (b1 - a1) * t := Int.mul_nonneg (by omega) ht0
        have e2 : B * (p1 - a1) < 0 := Int.mul_neg_of_pos_of_neg hB (by omega)
        omega
      · exact hp
    · rcases Int.lt_or_le b1 p1 with hp | hp
      · have e : (b1 - a1) * t ≤ (b1 - a1) * B := Int.mul_le_mul_of_nonneg_left ht1 (by omega)
        have e2 : B * (b1 - a1) < B * (p1 - a1) := Int.mul_lt_mul_of_pos_left (by omega) hB
        rw [Int.mul_comm B (b1 - a1)] at e2
        omega
      · exact hp

/-- Right of both ends it is not left. -/
theorem cross_right (h1 : a2 ≤ p2) (h2 : p2 < b2) (h3 : a1 ≤ p1) (h4 : b1 ≤ p1) : cross a1 a2 b1 b2 p1 p2 ≤ 0 := by
  unfold cross
  have e2 : 0 ≤ (b2 - a2) * (p1 - a1) := Int.mul_nonneg (by omega) (by omega)
  rcases Int.lt_or_le b1 a1 with hA | hA
  · have e : (b1 - a1) * (p2 - a2) ≤ 0 := Int.mul_nonpos_of_nonpos_of_nonneg (by omega) (by omega)
    omega
  · have e : (b1 - a1) * (p2 - a2) ≤ (b1 - a1) * (b2 - a2) := Int.mul_le_mul_of_nonneg_left (by omega) (by omega)
    have e3 : (b2 - a2) * (b1 - a1) ≤ (b2 - a2) * (p1 - a1) := Int.mul_le_mul_of_nonneg_left (by omega) (by omega)
    rw [Int.mul_comm (b2 - a2) (b1 - a1)] at e3
    omega

/-- Lft of both ends it is left, or on the line. -/
theorem cross_left (h1 : a2 ≤ p2) (h2 : p2 < b2) (h3 : p1 ≤ a1) (h4 : p1 ≤ b1) : 0 ≤ cross a1 a2 b1 b2 p1 p2 := by
  unfold cross
  have e2 : (b2 - a2) * (p1 - a1) ≤ 0 := Int.mul_nonpos_of_nonneg_of_nonpos (by omega) (by omega)
  rcases Int.lt_or_le a1 b1 with hA | hA
  · have e : 0 ≤ (b1 - a1) * (p2 - a2) := Int.mul_nonneg (by omega) (by omega)
    omega
  · have e : (b1 - a1) * (b2 - a2) ≤ (b1 - a1) * (p2 - a2) := Int.mul_le_mul_of_nonpos_left (by omega) (by omega)
    have e3 : (b2 - a2) * (p1 - a1) ≤ (b2 - a2) * (b1 - a1) := Int.mul_le_mul_of_nonneg_left (by omega) (by omega)
    rw [Int.mul_comm (b2 - a2) (b1 - a1)] at e3
    omega

theorem not_On_line (hn : ¬ On a1 a2 b1 b2 p1 p2) (h1 : a2 ≤ p2) (h2 : p2 < b2) : cross a1 a2 b1 b2 p1 p2 ≠ 0 := fun h =>
  hn ⟨btw_of_line (by omega) h1 (by omega) h, .inl ⟨h1, by omega⟩, h⟩

end
end Go.Geo

/- Segment.Raycast. -/
namespace Go.Proofs.Tryz.Sx
open Go Go.Sx Go.Proofs Go.Fl Go.Geo
set_option maxRecDepth 100000

theorem flat61 : FlatEq Tryz.prog 100 [true, true] :=
  (fe_struct2 tysOk (t := 100) (e0 := 98) (e1 := 98) Tryz.underlying100 (by kernel_rfl) (by decide) (by decide) ⟨rfl, rfl⟩ ⟨rfl, rfl⟩ (by rfl) (by rfl) rfl rfl).flat (by kernel_rfl) (by decide)

def GR : Ctx := ⟨⟨tys, [(100, [true, true])]⟩, [(99, pureCon nextF), (100, pureCon infF)]⟩
theorem gR : CtxOk Tryz.prog GR := ⟨⟨tysOk, FlatsOk.cons flat61 FlatsOk.nil⟩, GamOk.cons (.pure next) (GamOk.cons (.pure inf) GamOk.nil), by kernel_rfl⟩

/-- The state between the tests: the result, the point, the ends. -/
def SR (px py ax ay bx by' : Nat) : St :=
  ⟨302, [(4, .ptr 0 0), (5, .ptr 1 0), (6, .ptr 2 0), (7, .ptr 3 0)],
    [(0, ⟨true, 142, .cells [.ff, .ff], 0⟩), (1, ⟨true, 100, .cells [.flt .f64 px, .flt .f64 py], 0⟩), (2, ⟨true, 100, .cells [.flt .f64 ax, .flt .f64 ay], 0⟩), (3, ⟨true, 100, .cells [.flt .f64 bx, .flt .f64 by'], 0⟩)], 4⟩

/-- What is asked at the end: these two words. -/
def KR (i o : Bool) : Xt → St → Prop := endK GR.E.T Tryz.f90.results.toList fun _ v => eqv v (.agg [.bool i, .bool o])

def p1 : Code → Code
  | .seq x _ => x
  | c => c
def p2 : Code → Code
  | .seq _ y => y
  | c => c
noncomputable def c0 : Code := codeOf Tryz.f90
noncomputable def c2 : Code := p2 (p2 c0)     -- behind the first two regions
noncomputable def c3 : Code := p2 c2
noncomputable def c4 : Code := p2 c3
noncomputable def c5 : Code := p2 c4
noncomputable def c6 : Code := p2 c5          -- the loop and what follows
noncomputable def c7 : Code := p2 c6
noncomputable def c8 : Code := p2 c7
noncomputable def c9 : Code := p2 c8
noncomputable def c10 : Code := p2 c9

theorem Wp.refines {P : Program} {N0 : Nat} {S S1 : St} {K : Xt → St → Prop} {c : Code} (hr : Refines N0 S S1) (h : Wp P N0 c S1 K) : Wp P N0 c S K := by
  intro W0 Fr ρ0 ρ a w Q hS hN hρ hK
  obtain ⟨ρ', h1, h2⟩ := hr.2 W0 Fr ρ a w hS
  exact h W0 Fr ρ0 ρ' a w Q h1 hr.1 (fun n hn => (h2 n hn).trans (hρ n hn)) hK

set_option maxHeartbeats 4000000 in
theorem start (ax ay bx by' px py : Nat) (i o : Bool) (h : Wp Tryz.prog 0 c2 (SR px py ax ay bx by') (KR i o)) :
    Wp Tryz.prog 0 c0 (init 302 [.agg [.flt .f64 ax, .flt .f64 ay, .flt .f64 bx, .flt .f64 by'], .agg [.flt .f64 px, .flt .f64 py]] [] 0) (KR i o) := by
  refine Wp.seq (K1 := fun e S' => match e with
    | .normal => Wp Tryz.prog 0 (p2 c0) S' (KR i o)
    | _ => False) (Wp.run gR ?_) (fun S' h' => h') (fun _ _ h => h.elim) (fun _ h => h.elim)
  show Wp Tryz.prog 0 (p2 c0) _ (KR i o)
  refine Wp.seq (K1 := fun e S' => match e with
    | .normal => Refines 0 S' (SR px py ax ay bx by')
    | _ => False) (Wp.run gR ?_) (fun S' h' => Wp.refines h' h) (fun _ _ h => h.elim) (fun _ h => h.elim)
  refine And.intro ?_ ?_
  · kernel_rfl
  · show Refines 0 _ (SR px py ax ay bx by')
    refine Refines.by_names [(0, some 8), (1, some 32), (2, some 36), (3, some 40)] ⟨rfl, rfl, rfl, rfl, ?_, ?_⟩
    · exact ⟨⟨rfl, trivial, rfl⟩, ⟨rfl, trivial, rfl⟩, ⟨rfl, trivial, rfl⟩, ⟨rfl, trivial, rfl⟩, trivial⟩
    · exact ⟨⟨rfl, rfl, rfl, rfl, trivial, trivial, trivial⟩, ⟨rfl, rfl, rfl, rfl, rfl, rfl, trivial⟩, ⟨rfl, rfl, rfl, rfl, rfl, rfl, trivial⟩, ⟨rfl, rfl, rfl, rfl, rfl, rfl, trivial⟩, trivial⟩

structure Pts (ax ay bx by' px py : Nat) (a1 a2 b1 b2 p1 p2 : Int) : Prop where
  ax : FI ax a1
  ay : FI ay a2
  bx : FI bx b1
  by' : FI by' b2
  px : FI px p1
  py : FI py p2
  ha1 : a1.natAbs ≤ 2 ^ 22
  ha2 : a2.natAbs ≤ 2 ^ 22
  hb1 : b1.natAbs ≤ 2 ^ 22
  hb2 : b2.natAbs ≤ 2 ^ 22
  hp1 : p1.natAbs ≤ 2 ^ 22
  hp2 : p2.natAbs ≤ 2 ^ 22

section
variable {ax ay bx by' px py : Nat} {a1 a2 b1 b2 p1 p2 : Int} (H : Pts ax ay bx by' px py a1 a2 b1 b2 p1 p2)
include H

/-- What is to come out. -/
abbrev KK (a1 a2 b1 b2 p1 p2 : Int) : Xt → St → Prop := KR (decide (¬ On a1 a2 b1 b2 p1 p2 ∧ Lft a1 a2 b1 b2 p1 p2)) (decide (On a1 a2 b1 b2 p1 p2))

set_option maxHeartbeats 4000000 in
theorem cut1 (h : ((a2 < b2 → a2 ≤ p2 ∧ p2 ≤ b2) ∧ (b2 < a2 → b2 ≤ p2 ∧ p2 ≤ a2)) → Wp Tryz.prog 0 c3 (SR px py ax ay bx by') (KK a1 a2 b1 b2 p1 p2)) :
    Wp Tryz.prog 0 c2 (SR px py ax ay bx by') (KK a1 a2 b1 b2 p1 p2) := by
  refine Wp.keep _ (Wp.run gR ?_) h
  have e1 := flt_I H.ay H.by'
  have e2 := flt_I H.py H.ay
  have e3 := fgt_I H.py H.by'
  have e4 := fgt_I H.ay H.by'
  have e5 := flt_I H.py H.by'
  have e6 := fgt_I H.py H.ay
  repeat' (first | (intro h) | (refine And.intro ?_ ?_))
  all_goals try simp only [e1, e2, e3, e4, e5, e6, decide_eq_true_eq, decide_eq_false_iff_not] at *
  all_goals first
    | exact trivial
    | exact ⟨rfl, rfl, rfl, rfl, rfl⟩
    | omega
    | exact decide_eq_false (fun hh => by unfold On btw at hh; omega)
    | exact decide_eq_false (fun hh => by unfold Lft at hh; omega)

set_option maxHeartbeats 4000000 in
theorem cut2 (f1 : (a2 < b2 → a2 ≤ p2 ∧ p2 ≤ b2) ∧ (b2 < a2 → b2 ≤ p2 ∧ p2 ≤ a2)) (h : (a2 = b2 → a1 ≠ b1 ∧ (p2 = b2 → ¬ btw a1 b1 p1)) → Wp Tryz.prog 0 c4 (SR px py ax ay bx by') (KK a1 a2 b1 b2 p1 p2)) :
    Wp Tryz.prog 0 c3 (SR px py ax ay bx by') (KK a1 a2 b1 b2 p1 p2) := by
  refine Wp.keep _ (Wp.run gR ?_) h
  have e1 := feq_I H.ay H.by'
  have e2 := feq_I H.ax H.bx
  have e3 := feq_I H.px H.ax
  have e3' := feq_I H.py H.ay
  have e4 := feq_I H.py H.by'
  have e5 := flt_I H.ax H.bx
  have e6 := fge_I H.px H.ax
  have e7 := fle_I H.px H.bx
  have e8 := fge_I H.px H.bx
  have e9 := fle_I H.px H.ax
  have l1 : a2 = b2 → p2 = b2 → cross a1 a2 b1 b2 p1 p2 = 0 := fun x y => by subst x; subst y; unfold cross; simp
  have l2 : a2 = b2 → a1 = b1 → cross a1 a2 b1 b2 p1 p2 = 0 := fun x y => by subst x; subst y; unfold cross; simp
  clear h
  repeat' (first | (intro h) | (refine And.intro ?_ ?_))
  all_goals try simp only [e1, e2, e3, e3', e4, e5, e6, e7, e8, e9, decide_eq_true_eq, decide_eq_false_iff_not, Bool.and_eq_true, Bool.and_true, Bool.and_eq_false_imp] at *
  all_goals first
    | exact trivial
    | exact ⟨rfl, rfl, rfl, rfl, rfl⟩
    | omega
    | (unfold btw at *; omega)
    | exact decide_eq_false (fun hh => by unfold On btw at hh; omega)
    | exact decide_eq_false (fun hh => by unfold Lft at hh; omega)
    | exact decide_eq_true (by unfold On btw; omega)
    | exact decide_eq_false (fun hh => hh.1 (by unfold On btw; omega))

set_option maxHeartbeats 4000000 in
theorem cut3 (f1 : (a2 < b2 → a2 ≤ p2 ∧ p2 ≤ b2) ∧ (b2 < a2 → b2 ≤ p2 ∧ p2 ≤ a2)) (f2 : a2 = b2 → a1 ≠ b1 ∧ (p2 = b2 → ¬ btw a1 b1 p1)) (h : (a1 = b1 → p1 ≠ b1) → Wp Tryz.prog 0 c5 (SR px py ax ay bx by') (KK a1 a2 b1 b2 p1 p2)) :
    Wp Tryz.prog 0 c4 (SR px py ax ay bx by') (KK a1 a2 b1 b2 p1 p2) := by
  refine Wp.keep _ (Wp.run gR ?_) h
  have e1 := feq_I H.ax H.bx
  have e2 := feq_I H.px H.bx
  have e3 := flt_I H.ay H.by'
  have e4 := fge_I H.py H.ay
  have e5 := fle_I H.py H.by'
  have e6 := fge_I H.py H.by'
  have e7 := fle_I H.py H.ay
  have l1 : a1 = b1 → p1 = b1 → cross a1 a2 b1 b2 p1 p2 = 0 := fun x y => by subst x; subst y; unfold cross; simp
  clear h
  repeat' (first | (intro h) | (refine And.intro ?_ ?_))
  all_goals try simp only [e1, e2, e3, e4, e5, e6, e7, decide_eq_true_eq, decide_eq_false_iff_not] at *
  all_goals first
    | exact trivial
    | exact ⟨rfl, rfl, rfl, rfl, rfl⟩
    | omega
    | exact decide_eq_true (by unfold On btw; omega)
    | exact decide_eq_false (fun hh => hh.1 (by unfold On btw; omega))

set_option maxHeartbeats 4000000 in
theorem cut4 (f1 : (a2 < b2 → a2 ≤ p2 ∧ p2 ≤ b2) ∧ (b2 < a2 → b2 ≤ p2 ∧ p2 ≤ a2)) (f2 : a2 = b2 → a1 ≠ b1 ∧ (p2 = b2 → ¬ btw a1 b1 p1)) (f3 : a1 = b1 → p1 ≠ b1)
    (h : ¬ On a1 a2 b1 b2 p1 p2 → Wp Tryz.prog 0 c6 (SR px py ax ay bx by') (KK a1 a2 b1 b2 p1 p2)) :
    Wp Tryz.prog 0 c5 (SR px py ax ay bx by') (KK a1 a2 b1 b2 p1 p2) := by
  refine Wp.keep _ (Wp.run gR ?_) h
  clear h
  obtain ⟨s1, d1⟩ := sub_I H.px H.ax H.hp1 H.ha1
  obtain ⟨s2, d2⟩ := sub_I H.bx H.ax H.hb1 H.ha1
  obtain ⟨s3, d3⟩ := sub_I H.py H.ay H.hp2 H.ha2
  obtain ⟨s4, d4⟩ := sub_I H.by' H.ay H.hb2 H.ha2
  -- what the test says
  have key : ∀ r q, QuoRel .f64 (fop .sub .f64 px ax) (fop .sub .f64 bx ax) r → QuoRel .f64 (fop .sub .f64 py ay) (fop .sub .f64 by' ay) q → (fEq .f64 r q = true ↔ On a1 a2 b1 b2 p1 p2) := by
    intro r q hr hq
    have hb := H.ha1
    have hb' := H.ha2
    have hb'' := H.hb1
    have hb''' := H.hb2
    have hc := H.hp1
    have hc' := H.hp2
    by_cases hv : b1 - a1 = 0
    · rw [hv] at d2
      have h4 : b2 - a2 ≠ 0 := by omega
      obtain ⟨g1, _⟩ := quo_fin hq d3 d4 h4 (by omega) (by omega)
      rw [(quo_inf hr d1 (by omega) d2 g1).1]
      constructor
      · intro h; cases h
      · intro h; unfold On btw at h; omega
    · obtain ⟨g1, g2⟩ := quo_fin hr d1 d2 hv (by omega) (by omega)
      by_cases hw : b2 - a2 = 0
      · rw [hw] at d4
        have hne : fEq .f64 r q = false := by
          by_cases hz : p2 - a2 = 0
          · rw [hz] at d3
            exact (quo_nan hq d3 d4).2
          · exact (quo_inf hq d3 hz d4 g1).2
        rw [hne]
        constructor
        · intro h; cases h
        · intro h; unfold On at h; unfold btw at h f2; omega
      · obtain ⟨g3, g4⟩ := quo_fin hq d3 d4 hw (by omega) (by omega)
        rw [feq_V g1 g3, decide_eq_true_eq, QV_iff g2 g4 hv hw ?_ ?_]
        · have hcross : cross a1 a2 b1 b2 p1 p2 = (p2 - a2) * (b1 - a1) - (p1 - a1) * (b2 - a2) := by
            unfold cross; rw [Int.mul_comm (b1 - a1), Int.mul_comm (b2 - a2)]
          constructor
          · intro h
            have h0 : cross a1 a2 b1 b2 p1 p2 = 0 := by omega
            rcases Int.lt_or_le a2 b2 with hlt | hge
            · exact ⟨btw_of_line hlt (by omega) (by omega) h0, by unfold btw; omega, h0⟩
            · have hlt : b2 < a2 := by omega
              refine On_swap.1 ⟨btw_of_line (p2 := p2) hlt (by omega) (by omega) (by rw [cross_swap]; omega), by unfold btw; omega, by rw [cross_swap]; omega⟩
          · intro h
            have := h.2.2
            omega
        · have := Nat.mul_le_mul (show (p1 - a1).natAbs ≤ 2 ^ 23 by omega) (show (b2 - a2).natAbs ≤ 2 ^ 23 by omega)
          omega
        · have := Nat.mul_le_mul (show (p2 - a2).natAbs ≤ 2 ^ 23 by omega) (show (b1 - a1).natAbs ≤ 2 ^ 23 by omega)
          omega
  refine And.intro s1 (And.intro s2 ?_)
  intro r hr
  refine And.intro s3 (And.intro s4 ?_)
  intro q hq
  have hk := key r q hr hq
  refine And.intro ?_ ?_
  · intro h
    have ho := hk.1 h
    exact ⟨decide_eq_false (fun hh => hh.1 ho), decide_eq_true ho, trivial⟩
  · intro h
    refine And.intro ?_ ?_
    · intro ho
      rw [hk.2 ho] at h; cases h
    · exact ⟨rfl, rfl, rfl, rfl, rfl⟩

end

end Go.Proofs.Tryz.Sx

/- Segment.Raycast: the loop. -/
namespace Go.Proofs.Tryz.Sx
open Go Go.Sx Go.Proofs Go.Fl Go.Geo
set_option maxRecDepth 100000

theorem Refines.rfl' {S : St} : Refines 0 S S := ⟨Nat.zero_le _, fun _ _ ρ _ _ h => ⟨ρ, h, fun _ _ => rfl⟩⟩

section
variable {ax ay bx by' px py : Nat} {a1 a2 b1 b2 p1 p2 : Int} (H : Pts ax ay bx by' px py a1 a2 b1 b2 p1 p2)
include H

def LI (ax ay bx by' px py : Nat) : Bool → St
  | false => SR px py ax ay bx by'
  | true => SR px (nxt py) ax ay bx by'
def Lμ : Bool → Nat
  | false => 1
  | true => 0

set_option maxHeartbeats 4000000 in
theorem cut5 (hA : p2 ≠ a2 ∧ p2 ≠ b2 → Wp Tryz.prog 0 c7 (SR px py ax ay bx by') (KK a1 a2 b1 b2 p1 p2)) (hB : p2 = a2 ∨ p2 = b2 → Wp Tryz.prog 0 c7 (SR px (nxt py) ax ay bx by') (KK a1 a2 b1 b2 p1 p2)) :
    Wp Tryz.prog 0 c6 (SR px py ax ay bx by') (KK a1 a2 b1 b2 p1 p2) := by
  refine Wp.seq (K1 := fun e S' => match e with
    | .normal => ((p2 ≠ a2 ∧ p2 ≠ b2) ∧ Refines 0 S' (SR px py ax ay bx by')) ∨ ((p2 = a2 ∨ p2 = b2) ∧ Refines 0 S' (SR px (nxt py) ax ay bx by'))
    | _ => False) ?_ (fun S' h' => by
      rcases h' with ⟨h1, h2⟩ | ⟨h1, h2⟩
      · exact Wp.refines h2 (hA h1)
      · exact Wp.refines h2 (hB h1)) (fun _ _ h => h.elim) (fun _ h => h.elim)
  clear hA hB
  have e1 := feq_I H.py H.ay
  have e2 := feq_I H.py H.by'
  have hn := near_nxt H.py H.hp2
  have e3 := near_eq hn H.ay
  have e4 := near_eq hn H.by'
  have hf := H.py.1
  have hl := (nxt_spec H.py H.hp2).1
  refine Wp.block (Wp.loop (ι := { i : Bool // i = true → (p2 = a2 ∨ p2 = b2) }) (fun i => LI ax ay bx by' px py i.1) (fun i => Lμ i.1) ⟨false, by intro h; cases h⟩ Refines.rfl' ?_)
  rintro ⟨i, hi⟩
  cases i with
  | false =>
    refine Wp.run gR ?_
    refine And.intro ?_ ?_
    · intro h
      rw [e1] at h
      refine And.intro rfl (And.intro ⟨rfl, hf, hl⟩ (And.intro (by kernel_rfl) ?_))
      refine ⟨⟨true, fun _ => .inl (of_decide_eq_true h)⟩, show (0 : Nat) < 1 by decide, Refines.by_names [] ⟨rfl, rfl, rfl, rfl, ?_, ?_⟩⟩
      · exact ⟨⟨rfl, trivial, rfl⟩, ⟨rfl, trivial, rfl⟩, ⟨rfl, trivial, rfl⟩, ⟨rfl, trivial, rfl⟩, trivial⟩
      · exact ⟨⟨rfl, rfl, rfl, rfl, trivial, trivial, trivial⟩, ⟨rfl, rfl, rfl, rfl, rfl, rfl, trivial⟩, ⟨rfl, rfl, rfl, rfl, rfl, rfl, trivial⟩, ⟨rfl, rfl, rfl, rfl, rfl, rfl, trivial⟩, trivial⟩
    · intro h
      rw [e1] at h
      refine And.intro ?_ ?_
      · intro h'
        rw [e2] at h'
        refine And.intro rfl (And.intro ⟨rfl, hf, hl⟩ (And.intro (by kernel_rfl) ?_))
        refine ⟨⟨true, fun _ => .inr (of_decide_eq_true h')⟩, show (0 : Nat) < 1 by decide, Refines.by_names [] ⟨rfl, rfl, rfl, rfl, ?_, ?_⟩⟩
        · exact ⟨⟨rfl, trivial, rfl⟩, ⟨rfl, trivial, rfl⟩, ⟨rfl, trivial, rfl⟩, ⟨rfl, trivial, rfl⟩, trivial⟩
        · exact ⟨⟨rfl, rfl, rfl, rfl, trivial, trivial, trivial⟩, ⟨rfl, rfl, rfl, rfl, rfl, rfl, trivial⟩, ⟨rfl, rfl, rfl, rfl, rfl, rfl, trivial⟩, ⟨rfl, rfl, rfl, rfl, rfl, rfl, trivial⟩, trivial⟩
      · intro h'
        rw [e2] at h'
        refine Or.inl ⟨⟨of_decide_eq_false h, of_decide_eq_false h'⟩, Refines.by_names [] ⟨rfl, rfl, rfl, rfl, ?_, ?_⟩⟩
        · exact ⟨⟨rfl, trivial, rfl⟩, ⟨rfl, trivial, rfl⟩, ⟨rfl, trivial, rfl⟩, ⟨rfl, trivial, rfl⟩, trivial⟩
        · exact ⟨⟨rfl, rfl, rfl, rfl, trivial, trivial, trivial⟩, ⟨rfl, rfl, rfl, rfl, rfl, rfl, trivial⟩, ⟨rfl, rfl, rfl, rfl, rfl, rfl, trivial⟩, ⟨rfl, rfl, rfl, rfl, rfl, rfl, trivial⟩, trivial⟩
  | true =>
    have hi := hi rfl
    refine Wp.run gR ?_
    refine And.intro ?_ ?_
    · intro h
      rw [e3] at h; cases h
    · intro h
      refine And.intro ?_ ?_
      · intro h'
        rw [e4] at h'; cases h'
      · intro h'
        refine Or.inr ⟨hi, Refines.by_names [] ⟨rfl, rfl, rfl, rfl, ?_, ?_⟩⟩
        · exact ⟨⟨rfl, trivial, rfl⟩, ⟨rfl, trivial, rfl⟩, ⟨rfl, trivial, rfl⟩, ⟨rfl, trivial, rfl⟩, trivial⟩
        · exact ⟨⟨rfl, rfl, rfl, rfl, trivial, trivial, trivial⟩, ⟨rfl, rfl, rfl, rfl, rfl, rfl, trivial⟩, ⟨rfl, rfl, rfl, rfl, rfl, rfl, trivial⟩, ⟨rfl, rfl, rfl, rfl, rfl, rfl, trivial⟩, trivial⟩

end
end Go.Proofs.Tryz.Sx

/- The slope from an end to a point against the segment's slope. -/
namespace Go.Fl
open Ieee Go.Sx Go.Geo

theorem small_lt {k : Nat} (hk : k ≤ 1047) : 2 ^ k < 2 ^ (U1 - 25) := (Nat.pow_lt_pow_iff_right (by decide)).2 (by have : U1 = 1074 := rfl; omega)

theorem slope {lx ly ux uy px q : Nat} {l1 l2 u1 u2 p1 p2 : Int} (h1 : FI lx l1) (h2 : FI ly l2) (h3 : FI ux u1) (h4 : FI uy u2) (h5 : FI px p1)
    (b1 : l1.natAbs ≤ 2 ^ 22) (b2 : l2.natAbs ≤ 2 ^ 22) (b3 : u1.natAbs ≤ 2 ^ 22) (b4 : u2.natAbs ≤ 2 ^ 22) (b5 : p1.natAbs ≤ 2 ^ 22) (b6 : p2.natAbs ≤ 2 ^ 22)
    (hy : l2 ≤ p2 ∧ p2 < u2) (hx : (l1 < p1 ∧ p1 < u1) ∨ (u1 < p1 ∧ p1 < l1)) (hq : (FI q p2 ∧ p2 ≠ l2) ∨ (Near q p2 ∧ p2 = l2)) :
    fok .sub .f64 q ly ∧ fok .sub .f64 px lx ∧ fok .sub .f64 uy ly ∧ fok .sub .f64 ux lx ∧
    ∀ r w, QuoRel .f64 (fop .sub .f64 q ly) (fop .sub .f64 px lx) r → QuoRel .f64 (fop .sub .f64 uy ly) (fop .sub .f64 ux lx) w → fGe .f64 r w = decide (0 ≤ cross l1 l2 u1 u2 p1 p2) := by
  obtain ⟨s2, d2⟩ := sub_I h5 h1 b5 b1
  obtain ⟨s3, d3⟩ := sub_I h4 h2 b4 b2
  obtain ⟨s4, d4⟩ := sub_I h3 h1 b3 b1
  have hcross : cross l1 l2 u1 u2 p1 p2 = (p2 - l2) * (u1 - l1) - (u2 - l2) * (p1 - l1) := by
    unfold cross; rw [Int.mul_comm (u1 - l1)]
  have hnum : u2 - l2 ≠ 0 := by omega
  have hd1 : p1 - l1 ≠ 0 := by omega
  have hd2 : u1 - l1 ≠ 0 := by omega
  rcases hq with ⟨hq, hne⟩ | ⟨hq, heq⟩
  · obtain ⟨s1, d1⟩ := sub_I hq h2 b6 b2
    refine ⟨s1, s2, s3, s4, fun r w hr hw => ?_⟩
    obtain ⟨g1, g2⟩ := quo_fin hr d1 d2 hd1 (by omega) (by omega)
    obtain ⟨g3, g4⟩ := quo_fin hw d3 d4 hd2 (by omega) (by omega)
    rw [fge_V g1 g3]
    have hpos : 0 < (u1 - l1) * (p1 - l1) := by
      rcases hx with hx | hx
      · exact Int.mul_pos (by omega) (by omega)
      · exact Int.mul_pos_of_neg_of_neg (by omega) (by omega)
    refine decide_eq_decide.2 ?_
    rw [QV_le_iff g4 g2 hpos ?_ ?_, hcross]
    · omega
    · have := Nat.mul_le_mul (show (u2 - l2).natAbs ≤ 2 ^ 23 by omega) (show (p1 - l1).natAbs ≤ 2 ^ 23 by omega)
      omega
    · have := Nat.mul_le_mul (show (p2 - l2).natAbs ≤ 2 ^ 23 by omega) (show (u1 - l1).natAbs ≤ 2 ^ 23 by omega)
      omega
  · obtain ⟨hf, k, hk, hv⟩ := hq
    subst heq
    obtain ⟨n, n1, n2, n3, n4⟩ := sub_near hf hv hk h2
    have hn : floatBits .sub .f64 q ly = some n := n1
    have s1 : fok .sub .f64 q ly := by unfold fok; rw [hn]; rfl
    have e1 : fop .sub .f64 q ly = n := by unfold fop; rw [hn]; rfl
    refine ⟨s1, s2, s3, s4, fun r w hr hw => ?_⟩
    rw [e1] at hr
    obtain ⟨r', m1, m2, m3, m4, m5⟩ := div_little n2 n3 n4 (by omega) d2 hd1
    have hrr : r = r' := by
      have : floatBits .quo .f64 n (fop .sub .f64 px lx) = some r' := m1
      unfold QuoRel at hr
      rw [this] at hr
      exact hr
    subst hrr
    obtain ⟨g3, g4⟩ := quo_fin hw d3 d4 hd2 (by omega) (by omega)
    obtain ⟨q1, q2⟩ := QV_large g4 hnum (show (u1 - l1).natAbs ≤ 2 ^ 24 by omega)
    have hs : 2 ^ (k + 1 + 1) < 2 ^ (U1 - 25) := small_lt (by omega)
    rw [fge_V m2 g3]
    refine decide_eq_decide.2 ?_
    have hn0 : decide (u2 - p2 < 0) = false := decide_eq_false (by omega)
    rw [hn0, Bool.false_xor] at q2
    rw [hcross, Int.sub_self, Int.zero_mul]
    generalize 2 ^ (k + 1 + 1) = t at *
    generalize 2 ^ (U1 - 25) = u at *
    rcases hx with hx | hx
    · have hneg : ¬ V w < 0 := by rw [q2]; simp; omega
      have := m3 (by omega)
      have hm : 0 < (u2 - p2) * (p1 - l1) := Int.mul_pos (by omega) (by omega)
      omega
    · have hneg : V w < 0 := by rw [q2]; simp; omega
      have := m4 (by omega)
      have hm : (u2 - p2) * (p1 - l1) < 0 := Int.mul_neg_of_pos_of_neg (by omega) (by omega)
      omega

end Go.Fl

/- Segment.Raycast: behind the loop; whole. -/
namespace Go.Proofs.Tryz.Sx
open Go Go.Sx Go.Proofs Go.Fl Go.Geo
set_option maxRecDepth 100000

/-- The height of the ray: the point's own, between the ends' heights; or a little above, where it was one of those. -/
def Ray (q : Nat) (p2 a2 b2 : Int) : Prop := (FI q p2 ∧ p2 ≠ a2 ∧ p2 ≠ b2) ∨ (Near q p2 ∧ (p2 = a2 ∨ p2 = b2))

theorem Ray.lt {q y : Nat} {p2 a2 b2 m : Int} (h : Ray q p2 a2 b2) (hy : FI y m) : fLt .f64 q y = decide (p2 < m) := by
  rcases h with ⟨h, _⟩ | ⟨h, _⟩
  · exact flt_I h hy
  · exact near_lt h hy
theorem Ray.gt {q y : Nat} {p2 a2 b2 m : Int} (h : Ray q p2 a2 b2) (hy : FI y m) (hm : m = a2 ∨ m = b2) : fGt .f64 q y = decide (m ≤ p2) := by
  rcases h with ⟨h, h1, h2⟩ | ⟨h, _⟩
  · rw [fgt_I h hy]; exact decide_eq_decide.2 (by omega)
  · exact near_gt h hy

theorem right_of {a1 a2 b1 b2 p1 p2 : Int} (f : (a2 < b2 ∧ a2 ≤ p2 ∧ p2 < b2) ∨ (b2 < a2 ∧ b2 ≤ p2 ∧ p2 < a2)) (h1 : a1 ≤ p1) (h2 : b1 ≤ p1) : ¬ Lft a1 a2 b1 b2 p1 p2 := by
  intro h
  unfold Lft at h
  rcases f with ⟨f1, f2, f3⟩ | ⟨f1, f2, f3⟩
  · have := cross_right f2 f3 h1 h2; omega
  · have := cross_right f2 f3 h2 h1; omega

theorem left_of {a1 a2 b1 b2 p1 p2 : Int} (hn : ¬ On a1 a2 b1 b2 p1 p2) (f : (a2 < b2 ∧ a2 ≤ p2 ∧ p2 < b2) ∨ (b2 < a2 ∧ b2 ≤ p2 ∧ p2 < a2)) (h1 : p1 ≤ a1) (h2 : p1 ≤ b1) : Lft a1 a2 b1 b2 p1 p2 := by
  unfold Lft
  rcases f with ⟨f1, f2, f3⟩ | ⟨f1, f2, f3⟩
  · have := cross_left f2 f3 h1 h2
    have := not_On_line hn f2 f3
    omega
  · have := cross_left f2 f3 h2 h1
    have := not_On_line (fun h => hn (On_swap.1 h)) f2 f3
    omega

theorem cut9 {ax ay bx by' px q : Nat} {a1 a2 b1 b2 p1 p2 : Int} (hn : ¬ On a1 a2 b1 b2 p1 p2) (hl : ¬ Lft a1 a2 b1 b2 p1 p2) : Wp Tryz.prog 0 c10 (SR px q ax ay bx by') (KK a1 a2 b1 b2 p1 p2) := by
  refine Wp.run gR ?_
  exact ⟨decide_eq_false (fun hh => hl hh.2), decide_eq_false hn, trivial⟩

section
variable {ax ay bx by' px py q : Nat} {a1 a2 b1 b2 p1 p2 : Int} (H : Pts ax ay bx by' px py a1 a2 b1 b2 p1 p2) (R : Ray q p2 a2 b2) (hn : ¬ On a1 a2 b1 b2 p1 p2)
include H R hn

set_option maxHeartbeats 4000000 in
theorem cut6 (h : (a2 < b2 ∧ a2 ≤ p2 ∧ p2 < b2) ∨ (b2 < a2 ∧ b2 ≤ p2 ∧ p2 < a2) → Wp Tryz.prog 0 c8 (SR px q ax ay bx by') (KK a1 a2 b1 b2 p1 p2)) :
    Wp Tryz.prog 0 c7 (SR px q ax ay bx by') (KK a1 a2 b1 b2 p1 p2) := by
  refine Wp.keep _ (Wp.run gR ?_) h
  clear h
  have e1 := flt_I H.ay H.by'
  have e2 := R.lt H.ay
  have e3 := R.gt H.by' (.inr rfl)
  have e4 := R.lt H.by'
  have e5 := R.gt H.ay (.inl rfl)
  repeat' (first | (intro h) | (refine And.intro ?_ ?_))
  all_goals try simp only [e1, e2, e3, e4, e5, decide_eq_true_eq, decide_eq_false_iff_not] at *
  all_goals first
    | exact trivial
    | exact ⟨rfl, rfl, rfl, rfl, rfl⟩
    | omega
    | exact decide_eq_false hn
    | exact decide_eq_false (fun hh => by unfold Lft at hh; omega)

set_option maxHeartbeats 4000000 in
theorem cut7 (f : (a2 < b2 ∧ a2 ≤ p2 ∧ p2 < b2) ∨ (b2 < a2 ∧ b2 ≤ p2 ∧ p2 < a2)) (h : (a1 < p1 ∧ p1 < b1) ∨ (b1 < p1 ∧ p1 < a1) → Wp Tryz.prog 0 c9 (SR px q ax ay bx by') (KK a1 a2 b1 b2 p1 p2)) :
    Wp Tryz.prog 0 c8 (SR px q ax ay bx by') (KK a1 a2 b1 b2 p1 p2) := by
  refine Wp.keep _ (Wp.run gR ?_) h
  clear h
  have _hR := R
  have r1 := right_of (a1 := a1) (b1 := b1) (p1 := p1) f
  have r2 := left_of hn f
  have e1 := fgt_I H.ax H.bx
  have e2 := fge_I H.px H.ax
  have e3 := fle_I H.px H.bx
  have e4 := fge_I H.px H.bx
  have e5 := fle_I H.px H.ax
  clear f
  repeat' (first | (intro h) | (refine And.intro ?_ ?_))
  all_goals try simp only [e1, e2, e3, e4, e5, decide_eq_true_eq, decide_eq_false_iff_not] at *
  all_goals first
    | exact trivial
    | exact ⟨rfl, rfl, rfl, rfl, rfl⟩
    | omega
    | exact decide_eq_false hn
    | exact decide_eq_true ⟨hn, r2 (by omega) (by omega)⟩
    | exact decide_eq_false (fun hh => r1 (by omega) (by omega) hh.2)

set_option maxHeartbeats 4000000 in
theorem cut8 (f : (a2 < b2 ∧ a2 ≤ p2 ∧ p2 < b2) ∨ (b2 < a2 ∧ b2 ≤ p2 ∧ p2 < a2)) (g : (a1 < p1 ∧ p1 < b1) ∨ (b1 < p1 ∧ p1 < a1)) (h : ¬ Lft a1 a2 b1 b2 p1 p2 → Wp Tryz.prog 0 c10 (SR px q ax ay bx by') (KK a1 a2 b1 b2 p1 p2)) :
    Wp Tryz.prog 0 c9 (SR px q ax ay bx by') (KK a1 a2 b1 b2 p1 p2) := by
  refine Wp.keep _ (Wp.run gR ?_) h
  clear h
  have e1 := flt_I H.ay H.by'
  refine And.intro ?_ ?_
  · intro h
    rw [e1] at h
    have h := of_decide_eq_true h
    have f : a2 ≤ p2 ∧ p2 < b2 := by omega
    obtain ⟨s1, s2, s3, s4, key⟩ := slope H.ax H.ay H.bx H.by' H.px H.ha1 H.ha2 H.hb1 H.hb2 H.hp1 H.hp2 f g (q := q) (by
      rcases R with ⟨h1, h2, h3⟩ | ⟨h1, h2⟩
      · exact .inl ⟨h1, h2⟩
      · exact .inr ⟨h1, by omega⟩)
    have hl : 0 ≤ cross a1 a2 b1 b2 p1 p2 ↔ Lft a1 a2 b1 b2 p1 p2 := by
      have := not_On_line hn f.1 f.2
      unfold Lft; omega
    refine And.intro s1 (And.intro s2 ?_)
    intro r hr
    refine And.intro s3 (And.intro s4 ?_)
    intro w hw
    have hk := key r w hr hw
    refine And.intro ?_ ?_
    · intro h'
      rw [hk] at h'
      exact ⟨decide_eq_true ⟨hn, hl.1 (of_decide_eq_true h')⟩, decide_eq_false hn, trivial⟩
    · intro h'
      rw [hk] at h'
      refine And.intro (fun hh => of_decide_eq_false h' (hl.2 hh)) ?_
      exact ⟨rfl, rfl, rfl, rfl, rfl⟩
  · intro h
    rw [e1] at h
    have h := of_decide_eq_false h
    have f : b2 < a2 ∧ b2 ≤ p2 ∧ p2 < a2 := by omega
    obtain ⟨s1, s2, s3, s4, key⟩ := slope H.bx H.by' H.ax H.ay H.px H.hb1 H.hb2 H.ha1 H.ha2 H.hp1 H.hp2 f.2 (by omega) (q := q) (by
      rcases R with ⟨h1, h2, h3⟩ | ⟨h1, h2⟩
      · exact .inl ⟨h1, h3⟩
      · exact .inr ⟨h1, by omega⟩)
    have hl : 0 ≤ cross b1 b2 a1 a2 p1 p2 ↔ Lft a1 a2 b1 b2 p1 p2 := by
      have := not_On_line (fun h => hn (On_swap.1 h)) f.2.1 f.2.2
      unfold Lft; omega
    refine And.intro s1 (And.intro s2 ?_)
    intro r hr
    refine And.intro s3 (And.intro s4 ?_)
    intro w hw
    have hk := key r w hr hw
    refine And.intro ?_ ?_
    · intro h'
      rw [hk] at h'
      exact ⟨decide_eq_true ⟨hn, hl.1 (of_decide_eq_true h')⟩, decide_eq_false hn, trivial⟩
    · intro h'
      rw [hk] at h'
      refine And.intro (fun hh => of_decide_eq_false h' (hl.2 hh)) ?_
      exact ⟨rfl, rfl, rfl, rfl, rfl⟩

theorem behind : Wp Tryz.prog 0 c7 (SR px q ax ay bx by') (KK a1 a2 b1 b2 p1 p2) :=
  cut6 H R hn fun f => cut7 H R hn f fun g => cut8 H R hn f g fun hl => cut9 hn hl

end

theorem whole {ax ay bx by' px py : Nat} {a1 a2 b1 b2 p1 p2 : Int} (H : Pts ax ay bx by' px py a1 a2 b1 b2 p1 p2) : Wp Tryz.prog 0 c0 (init 302 [.agg [.flt .f64 ax, .flt .f64 ay, .flt .f64 bx, .flt .f64 by'], .agg [.flt .f64 px, .flt .f64 py]] [] 0) (KK a1 a2 b1 b2 p1 p2) :=
  start _ _ _ _ _ _ _ _ (cut1 H fun f1 => cut2 H f1 fun f2 => cut3 H f1 f2 fun f3 => cut4 H f1 f2 f3 fun hn =>
    cut5 H (fun h => behind H (.inl ⟨H.py, h⟩) hn) (fun h => behind H (.inr ⟨near_nxt H.py H.hp2, h⟩) hn))

end Go.Proofs.Tryz.Sx

/- Conditions of a walk, whole: loops and cuts by given families of states. -/
namespace Go.Sx
open Go.RowKit

def okFlag (b : Bool) (p : Prop) : Prop :=
  match b with
  | true => p
  | false => False
theorem okFlag_iff {b : Bool} {p : Prop} (h : okFlag b p) : b = true ∧ p := by
  cases b
  · exact h.elim
  · exact ⟨rfl, h⟩

/-! ### One state fits another: what is left to show -/
def slotsP (σ : Sig) (sl : Slots) (N : Nat) : Slots → Prop
  | [] => True
  | (t, v') :: r => match slot sl t with
    | some v => okFlag (v'.und N) (eqvR σ v v' ∧ slotsP σ sl N r)
    | none => False

def Cont.undP (N : Nat) : Cont → Prop
  | .cells l => okFlag (undL N l) True
  | .ints _ _ _ => True
  | .flts _ _ _ => True
  | .gen n f => ∀ i, i < n → (f i).und N = true

def heapP (σ : Sig) (H : Heap) (N : Nat) : Heap → Prop
  | [] => True
  | (n, o') :: r => okFlag (Nat.blt n N) (o'.c.undP N ∧ (match σ n with
    | some m => match look H m with
      | some o => obR σ o o'
      | none => False
    | none => o'.c.size = 0) ∧ heapP σ H N r)

theorem slotsP_spec {σ : Sig} {sl : Slots} {N : Nat} : ∀ {s : Slots}, slotsP σ sl N s → slotsR σ sl N s
  | [], _ => trivial
  | (t, v') :: r, h => by
    unfold slotsP at h
    unfold slotsR
    split at h
    · rename_i v hv
      obtain ⟨h1, h2, h3⟩ := okFlag_iff h
      refine ⟨?_, slotsP_spec h3⟩
      rw [hv]
      exact ⟨h1, h2⟩
    · exact h.elim

theorem Cont.undP_spec {N : Nat} {c : Cont} (h : c.undP N) : c.und N := by
  cases c with
  | cells l => exact (okFlag_iff h).1
  | ints k n g => trivial
  | flts k n g => trivial
  | gen n f => exact h

theorem heapP_spec {σ : Sig} {H : Heap} {N : Nat} : ∀ {s : Heap}, heapP σ H N s → heapR σ H N s
  | [], _ => trivial
  | (n, o') :: r, h => by
    unfold heapP at h
    unfold heapR
    obtain ⟨h1, h2, h3, h4⟩ := okFlag_iff h
    exact ⟨⟨h1, Cont.undP_spec h2, h3⟩, heapP_spec h4⟩

def fitsP (N0 : Nat) (S S' : St) : Prop :=
  okFlag (Nat.ble N0 S'.N && (fixN N0 (autoSig N0 S S') && (Nat.beq S'.nt S.nt && distN (images (sigAt (autoSig N0 S S')) S'.H))))
    (slotsP (sigAt (autoSig N0 S S')) S.sl S'.N S'.sl ∧ heapP (sigAt (autoSig N0 S S')) S.H S'.N S'.H)

theorem fitsP_spec {N0 : Nat} {S S' : St} (h : fitsP N0 S S') : Refines N0 S S' := by
  obtain ⟨h1, h2, h3⟩ := okFlag_iff h
  simp only [Bool.and_eq_true] at h1
  obtain ⟨h4, h5, h6, h7⟩ := h1
  exact Refines.auto ⟨h4, h5, Nat.eq_of_beq_eq_true h6, h7, slotsP_spec h2, heapP_spec h3⟩

/-! ### Families of states -/
structure Fam where
  ι : Type
  I : ι → St
  inv : ι → Prop
  μ : ι → Nat

/-- By the number of the first region. -/
abbrev Ann := List (Nat × Fam)
def ann : Ann → Nat → Option Fam
  | [], _ => none
  | (m, v) :: r, n => match Nat.beq m n with
    | true => some v
    | false => ann r n

def firstReg : Code → Option Nat
  | .region id _ _ => some id
  | .seq x y => match firstReg x with
    | some i => some i
    | none => firstReg y
  | .block _ x => firstReg x
  | .loop x => firstReg x
  | _ => none

def annAt (A : Ann) (c : Code) : Option Fam :=
  match firstReg c with
  | some i => ann A i
  | none => none

/-- A loop's family, with the cuts within a round. -/
structure LFam where
  f : Fam
  cuts : f.ι → Ann
instance : Coe Fam LFam := ⟨fun f => ⟨f, fun _ => []⟩⟩
abbrev LAnn := List (Nat × LFam)
def lann : LAnn → Nat → Option LFam
  | [], _ => none
  | (m, v) :: r, n => match Nat.beq m n with
    | true => some v
    | false => lann r n
def lannAt (A : LAnn) (c : Code) : Option LFam :=
  match firstReg c with
  | some i => lann A i
  | none => none
def joinA : Ann → Ann → Ann
  | [], B => B
  | x :: r, B => x :: joinA r B

/-- A: the loops' families; B: the cuts'. -/
def runB (G : Ctx) (N0 : Nat) (A : LAnn) : Code → Ann → St → (Xt → St → Prop) → Prop
  | .skip, _, S, K => K .normal S
  | .region _ ops draw, _, S, K => match draw with
    | false => runOps G ops.toList ops.toList S (K .normal)
    | true => expl G ops.toList S (K .normal) 20 []
  | .seq x y, B, S, K => match annAt B y with
    | none => runB G N0 A x B S (fun e S' => match e with
      | .normal => runB G N0 A y B S' K
      | e => K e S')
    | some J => runB G N0 A x B S (fun e S' => match e with
      | .normal => ∃ j, J.inv j ∧ fitsP N0 S' (J.I j)
      | e => K e S') ∧ ∀ j, J.inv j → runB G N0 A y B (J.I j) K
  | .cond c x y, B, S, K => match opr S.sl c with
    | some .tt => runB G N0 A x B S K
    | some .ff => runB G N0 A y B S K
    | some (.bool b) => (b = true → runB G N0 A x B S K) ∧ (b = false → runB G N0 A y B S K)
    | _ => False
  | .block id x, B, S, K => runB G N0 A x B S (fun e S' => match e with
    | .exit j => match Nat.beq j id with
      | true => K .normal S'
      | false => K (.exit j) S'
    | e => K e S')
  | .exit id, _, S, K => K (.exit id) S
  | .ret, _, S, K => K .ret S
  | .loop x, B, S, K => match lannAt A x with
    | none => False
    | some J => (∃ i, J.f.inv i ∧ fitsP N0 S (J.f.I i)) ∧ ∀ i, J.f.inv i → runB G N0 A x (joinA (J.cuts i) B) (J.f.I i) (fun e S' => match e with
      | .normal => ∃ i', J.f.inv i' ∧ J.f.μ i' < J.f.μ i ∧ fitsP N0 S' (J.f.I i')
      | e => K e S')
  | _, _, _, _ => False
def runA (G : Ctx) (N0 : Nat) (A : LAnn) (B : Ann) (c : Code) (S : St) (K : Xt → St → Prop) : Prop := runB G N0 A c B S K

section
variable {P : Program} {G : Ctx}

theorem Wp.refines' {N0 : Nat} {S S1 : St} {K : Xt → St → Prop} {c : Code} (hr : Refines N0 S S1) (h : Wp P N0 c S1 K) : Wp P N0 c S K := by
  intro W0 Fr ρ0 ρ a w Q hS hN hρ hK
  obtain ⟨ρ', h1, h2⟩ := hr.2 W0 Fr ρ a w hS
  exact h W0 Fr ρ0 ρ' a w Q h1 hr.1 (fun n hn => (h2 n hn).trans (hρ n hn)) hK

theorem runB_sound (hG : CtxOk P G) {N0 : Nat} {A : LAnn} : ∀ (c : Code) {B : Ann} {S : St} {K : Xt → St → Prop}, runB G N0 A c B S K → Wp P N0 c S K := by
  intro c
  induction c with
  | skip => intro B S K h; exact Wp.run hG h
  | region id ops draw => intro B S K h; exact Wp.run hG h
  | seq x y ihx ihy =>
    intro B S K h
    unfold runB at h
    split at h
    · exact Wp.seq (ihx h) (fun S' h' => ihy h') (fun _ _ h => h) (fun _ h => h)
    · rename_i J hJ
      obtain ⟨h1, h2⟩ := h
      refine Wp.seq (ihx h1) (fun S' h' => ?_) (fun _ _ h => h) (fun _ h => h)
      obtain ⟨j, hj, hf⟩ := h'
      exact Wp.refines' (fitsP_spec hf) (ihy (h2 j hj))
  | cond c x y ihx ihy =>
    intro B S K h W0 Fr ρ0 ρ a w Q hS hN hρ hK
    unfold runB at h
    split at h
    · rename_i hv
      exact wp_cond_true (by simpa [SV.den] using (opr_sat hS.s hv).1) (ihx h W0 Fr ρ0 ρ a w Q hS hN hρ hK)
    · rename_i hv
      exact wp_cond_false (by simpa [SV.den] using (opr_sat hS.s hv).1) (ihy h W0 Fr ρ0 ρ a w Q hS hN hρ hK)
    · rename_i b hv
      have hb := (opr_sat hS.s hv).1
      simp only [SV.den] at hb
      exact wp_cond_split hb (fun e => ihx (h.1 e) W0 Fr ρ0 ρ a w Q hS hN hρ hK) (fun e => ihy (h.2 e) W0 Fr ρ0 ρ a w Q hS hN hρ hK)
    · exact h.elim
  | block id x ih =>
    intro B S K h
    exact Wp.block (ih h)
  | exit id => intro B S K h; exact Wp.run hG h
  | ret => intro B S K h; exact Wp.run hG h
  | loop x ih =>
    intro B S K h
    unfold runB at h
    split at h
    · exact h.elim
    · rename_i J hJ
      obtain ⟨⟨i0, h0, hf⟩, hr⟩ := h
      refine Wp.loop (ι := { i : J.f.ι // J.f.inv i }) (fun i => J.f.I i.1) (fun i => J.f.μ i.1) ⟨i0, h0⟩ (fitsP_spec hf) fun i => ?_
      refine Wp.mono (ih (hr i.1 i.2)) fun e S' h' => ?_
      cases e with
      | normal =>
        obtain ⟨i', h1, h2, h3⟩ := h'
        exact ⟨⟨i', h1⟩, h2, fitsP_spec h3⟩
      | exit id => exact h'
      | ret => exact h'
  | _ => intro B S K h; exact (h : False).elim
theorem runA_sound (hG : CtxOk P G) {N0 : Nat} {A : LAnn} {B : Ann} (c : Code) {S : St} {K : Xt → St → Prop} (h : runA G N0 A B c S K) : Wp P N0 c S K := runB_sound hG c h
end

/-! ### The end of a call that makes or writes named pieces -/
def postP (k : Nat) (hc : HC) (S : St) (v : SV) : Prop :=
  okFlag (hc.val.und (k + 4) && distN (images (tauSig k (autoTau k hc S v)) (hc.wr ++ hc.news)))
    (eqvR (tauSig k (autoTau k hc S v)) v hc.val ∧ heapP (tauSig k (autoTau k hc S v)) S.H (k + 4) (hc.wr ++ hc.news))

theorem postP_spec {k : Nat} {hc : HC} {S : St} {v : SV} (h : postP k hc S v) : ∃ tau, PostOk k hc S v tau := by
  obtain ⟨h1, h2, h3⟩ := okFlag_iff h
  simp only [Bool.and_eq_true] at h1
  exact ⟨_, h2, h1.1, heapP_spec h3, h1.2⟩

theorem endK_mono {T : Tys} {rs : List ResultVar} {K K' : St → SV → Prop} (h : ∀ S v, K S v → K' S v) {e : Xt} {S : St} (hk : endK T rs K e S) : endK T rs K' e S := by
  have key : retK T rs K S → retK T rs K' S := by
    intro hr
    unfold retK at hr ⊢
    split at hr
    · rename_i vs p hvs
      cases p with
      | none => exact h _ _ hr
      | some p => exact ⟨hr.1, h _ _ hr.2⟩
    · exact hr.elim
  cases e with
  | normal => exact key hk
  | ret => exact key hk
  | exit id => exact hk.elim

/-- A pure function by its conditions. -/
theorem body_codeOf {fn : Func} (hb : fn.body.isNone = false) : fn.body = some (codeOf fn) := by
  unfold codeOf
  cases h : fn.body with
  | none => rw [h] at hb; cases hb
  | some c => rfl

theorem pure_of_vc {P : Program} {G : Ctx} (hG : CtxOk P G) {f : Nat} {fn : Func} (hf : P.funcs[f]? = some fn) (hb : fn.body.isNone = false) (hnm : (fn.name == "runtime.NumGoroutine") = false) {F : PF}
    (h : ∀ args v p, F args = some (v, p) → okP p → (v.closed && (closedL args && Nat.ble args.length fn.ntmps)) = true ∧
      ∃ A B, runA G 0 A B (codeOf fn) (init fn.ntmps args [] 0) (endK G.E.T fn.results.toList fun _ v' => eqv v' v)) : PureOk P f F :=
  pure_of_wp hG hf (body_codeOf hb) hnm fun args v p hF hp => by
    obtain ⟨h1, A, B, h2⟩ := h args v p hF hp
    simp only [Bool.and_eq_true] at h1
    exact ⟨h1.1, h1.2.1, h1.2.2, runA_sound hG _ h2⟩

/-- What the call begins with, checked. -/
def preP (σ : Sig) (N : Nat) : Nat → List (Nm × Ob) → Heap → Prop
  | _, [], [] => True
  | i, (_, o) :: r, (j, o') :: r' => okFlag (Nat.beq i j) (o'.c.undP N ∧ obR σ o o' ∧ preP σ N (i + 1) r r')
  | _, _, _ => False
theorem preP_spec {σ : Sig} {N : Nat} : ∀ {i : Nat} {r : List (Nm × Ob)} {h : Heap}, preP σ N i r h → preR σ N i r h
  | _, [], [], _ => trivial
  | i, (_, o) :: r, (j, o') :: r', h => by
    obtain ⟨h1, h2, h3, h4⟩ := okFlag_iff h
    exact ⟨h1, Cont.undP_spec h2, h3, preP_spec h4⟩
  | _, [], _ :: _, h => h.elim
  | _, _ :: _, [], h => h.elim

def callP (fn : Func) (args : List SV) (acc : List (Nm × Ob)) (hc : HC) : Prop :=
  okFlag (undL acc.length hc.args && (Nat.ble hc.args.length fn.ntmps && (keysLt acc.length hc.heap hc.wr && (keysGe acc.length hc.news && rwIn hc.wr hc.heap))))
    (eqvRL (sgSig (fsts acc)) args hc.args ∧ preP (sgSig (fsts acc)) acc.length 0 acc hc.heap)

/-- A function that reads or makes named pieces, by its conditions. -/
theorem con_of_vc {P : Program} {G : Ctx} (hG : CtxOk P G) {f : Nat} {fn : Func} (hf : P.funcs[f]? = some fn) (hb : fn.body.isNone = false) (hnm : (fn.name == "runtime.NumGoroutine") = false) {C : List SV → RdM}
    (h : ∀ args, (C args).All (fun acc hc => okP hc.obl → callP fn args acc hc ∧
      ∃ A B, runA G acc.length A B (codeOf fn) (init fn.ntmps hc.args hc.heap acc.length) (endK G.E.T fn.results.toList fun S v => postP acc.length hc S v)) []) : ConOk P f (conR C) :=
  conR_okW hG hf (body_codeOf hb) hnm fun args => (h args).imp fun acc hc hk ho => by
    obtain ⟨h1, A, B, h2⟩ := hk ho
    obtain ⟨h3, h4, h5⟩ := okFlag_iff h1
    simp only [Bool.and_eq_true] at h3
    exact ⟨h4, h3.1, h3.2.1, preP_spec h5, h3.2.2.1, h3.2.2.2.1, h3.2.2.2.2, Wp.mono (runA_sound hG _ h2) fun e S' hk' => endK_mono (fun _ _ => postP_spec) hk'⟩

theorem okFlag_mk {b : Bool} {p : Prop} (h : b = true) (hp : p) : okFlag b p := by subst h; exact hp
theorem toB_eqvR {σ : Sig} {v : SV} {b : Bool} (h : v.toB = some b) : eqvR σ v (.bool b) := by
  cases v <;> simp_all [SV.toB, eqvR]
end Go.Sx

/- '==' at pairs of small structs: arrays of two of them, structs of two of them. -/
namespace Go.Sx
open Go.RowKit

section
variable {P : Program}

theorem hasK_len : ∀ {n : List Bool} {xs : List SV}, hasK n xs = true → xs.length = n.length
  | [], [], _ => rfl
  | [], _ :: _, h => by simp [hasK] at h
  | _ :: _, [], h => by simp [hasK] at h
  | k :: ks, v :: r, h => by
    unfold hasK at h
    split at h
    · simp only [Bool.and_eq_true] at h
      simp [hasK_len h.2]
    · simp only [Bool.and_eq_true] at h
      simp [hasK_len h.2]
    · cases h

theorem hasK_append : ∀ {n m : List Bool} {xs : List SV}, hasK (n ++ m) xs = true → ∃ a b, xs = a ++ b ∧ hasK n a = true ∧ hasK m b = true
  | [], m, xs, h => ⟨[], xs, rfl, rfl, h⟩
  | k :: n, m, [], h => by simp [hasK] at h
  | k :: n, m, v :: r, h => by
    unfold hasK at h
    simp only [List.cons_append] at h
    split at h
    · simp only [Bool.and_eq_true] at h
      obtain ⟨a, b, rfl, h1, h2⟩ := hasK_append h.2
      exact ⟨_ :: a, b, rfl, by simp [hasK, h.1, h1], h2⟩
    · simp only [Bool.and_eq_true] at h
      obtain ⟨a, b, rfl, h1, h2⟩ := hasK_append h.2
      refine ⟨_ :: a, b, rfl, ?_, h2⟩
      have := h.1
      simp at this
      simp [hasK, this, h1]
    · cases h

theorem lEq_append : ∀ {a b ys : List SV} {r : Bool}, lEq (a ++ b) ys = some r → ∃ c d r0 r1, ys = c ++ d ∧ lEq a c = some r0 ∧ lEq b d = some r1 ∧ r = (r0 && r1)
  | [], b, ys, r, h => ⟨[], ys, true, r, rfl, by simp [lEq], h, by simp⟩
  | x :: a, b, ys, r, h => by
    obtain ⟨y, ys', b0, b1, rfl, h1, h2, rfl⟩ := lEq_cons h
    obtain ⟨c, d, r0, r1, rfl, h3, h4, rfl⟩ := lEq_append h2
    exact ⟨y :: c, d, b0 && r0, r1, rfl, by simp [lEq, h1, h3], h4, by simp [Bool.and_assoc]⟩

theorem lEq_len : ∀ {a c : List SV} {r : Bool}, lEq a c = some r → c.length = a.length
  | [], c, r, h => by obtain ⟨rfl, _⟩ := lEq_nil h; rfl
  | x :: a, c, r, h => by
    obtain ⟨y, ys', b0, b1, rfl, h1, h2, rfl⟩ := lEq_cons h
    simp [lEq_len h2]

theorem getN_mid : ∀ (x pre post : List SV), Cont.getN (.cells (pre ++ x ++ post)) pre.length x.length = some x
  | [], _, _ => by simp [Cont.getN]
  | v :: x, pre, post => by
    simp only [List.length_cons, Cont.getN, Cont.get, getL_eq]
    have h1 : (pre ++ v :: x ++ post)[pre.length]? = some v := by simp
    rw [h1]
    have h2 := getN_mid x (pre ++ [v]) post
    simp only [List.length_append, List.length_cons, List.length_nil, Nat.zero_add, List.append_assoc, List.cons_append, List.nil_append] at h2
    simp only [List.append_assoc, List.cons_append]
    rw [h2]

theorem part_mid {T : Tys} (hT : TysOk P T) {e : Nat} {te : TI} (ht : ty T e = some te) (ha : te.isAgg = true) {pre x post : List SV} (hs : te.size = x.length) (ρ : Rho) (w : World) :
    (part e (denL ρ (pre ++ x ++ post)).toArray pre.length).run P w = .ok (.agg (denL ρ x).toArray) w := by
  have := (evPart_sound (U := fun _ => True) hT (cs := pre ++ x ++ post) (by rw [bdL_iff]; exact fun v _ => SV.bd_all v) (e := e) (o := pre.length) (v := .agg x)
    (by simp only [evPart, ht, ha, cut, hs]; rw [getN_mid]) ρ w).1
  simpa [SV.den] using this

/-- An array of two. -/
theorem fe_array2 {T : Tys} (hT : TysOk P T) {t e : Nat} {te : TI} {n : List Bool} {D : Nat} (hu : P.underlying t = some (.array 2 e)) (ht : ty T e = some te) (ha : te.isAgg = true) (hs : te.size = n.length)
    (he : FE P e n D) : FE P t (n ++ n) (D + 1) := by
  intro d xs ys b hx h ρ w
  obtain ⟨a, c, rfl, h1, h2⟩ := hasK_append hx
  obtain ⟨a', c', r0, r1, rfl, h3, h4, rfl⟩ := lEq_append h
  obtain ⟨i, hi, hsz, _⟩ := (hT e te ht).run_info
  have hc : P.cellsOf e = te.size := by simp [Program.cellsOf, hi, hsz]
  have la := hasK_len h1
  have lc := hasK_len h2
  have la' := lEq_len h3
  have lc' := lEq_len h4
  rw [show d + (D + 1) = (d + D) + 1 from rfl, run_equalIn_array w (d + D) _ _ hu hi, hc]
  have p0 := part_mid hT ht ha (pre := []) (x := a) (post := c) (by omega) ρ w
  have p1 := part_mid hT ht ha (pre := []) (x := a') (post := c') (by omega) ρ w
  have p2 := part_mid hT ht ha (pre := a) (x := c) (post := []) (by omega) ρ w
  have p3 := part_mid hT ht ha (pre := a') (x := c') (post := []) (by omega) ρ w
  simp only [List.nil_append, List.append_nil, List.length_nil] at p0 p1 p2 p3
  rw [show a.length = te.size by omega] at p2
  rw [show a'.length = te.size by omega] at p3
  have hr : List.range 2 = [0, 1] := rfl
  simp only [hr, Op.eqItems, Sem.run_bind, Nat.zero_mul, p0, p1, Result.andThen_ok, he d a a' r0 h1 h3 ρ w]
  cases r0
  · simp
  · simp only [Bool.not_true, Bool.false_eq_true, if_false, Sem.run_bind, Nat.one_mul, p2, p3, Result.andThen_ok, he d c c' r1 h2 h4 ρ w]
    cases r1 <;> simp

/-- A struct of two. -/
theorem fe_pair {T : Tys} (hT : TysOk P T) {t e : Nat} {te : TI} {n : List Bool} {D : Nat} {f0 f1 : Field} (hu : P.underlying t = some (.struct #[f0, f1])) (hp : P.stoodInHeld t = false)
    (hn0 : f0.name ≠ "_") (hn1 : f1.name ≠ "_") (h0 : f0.type = e ∧ f0.offset = 0) (h1 : f1.type = e ∧ f1.offset = te.size) (ht : ty T e = some te) (ha : te.isAgg = true) (hs : te.size = n.length)
    (he : FE P e n D) : FE P t (n ++ n) (D + 1) := by
  intro d xs ys b hx h ρ w
  have hf : P.fieldsOf t = #[f0, f1] := by simp [Program.fieldsOf, hu]
  obtain ⟨a, c, rfl, k1, k2⟩ := hasK_append hx
  obtain ⟨a', c', r0, r1, rfl, k3, k4, rfl⟩ := lEq_append h
  have la := hasK_len k1
  have lc := hasK_len k2
  have la' := lEq_len k3
  have lc' := lEq_len k4
  have p0 := part_mid hT ht ha (pre := []) (x := a) (post := c) (by omega) ρ w
  have p1 := part_mid hT ht ha (pre := []) (x := a') (post := c') (by omega) ρ w
  have p2 := part_mid hT ht ha (pre := a) (x := c) (post := []) (by omega) ρ w
  have p3 := part_mid hT ht ha (pre := a') (x := c') (post := []) (by omega) ρ w
  simp only [List.nil_append, List.append_nil, List.length_nil] at p0 p1 p2 p3
  rw [show a.length = te.size by omega] at p2
  rw [show a'.length = te.size by omega] at p3
  rw [show d + (D + 1) = (d + D) + 1 from rfl, run_equalIn_agg w (d + D) t _ _ (by rw [hf]; exact hu) hp, hf]
  simp only [Op.eqFields, hn0, hn1, ne_eq, not_false_eq_true, if_true, h0.1, h0.2, h1.1, h1.2, Sem.run_bind, p0, p1, Result.andThen_ok, he d a a' r0 k1 k3 ρ w]
  cases r0
  · simp
  · simp only [Bool.not_true, Bool.false_eq_true, if_false, Sem.run_bind, p2, p3, Result.andThen_ok, he d c c' r1 k2 k4 ρ w]
    cases r1 <;> simp
end
end Go.Sx

/- geoOf: points as the specification has them; whether points are in the limits. -/
namespace Go.Proofs.Tryz.Sx
open Go Go.Sx Go.Proofs
set_option maxRecDepth 100000

def G0 : Ctx := ⟨⟨tys, []⟩, []⟩
theorem g0 : CtxOk Tryz.prog G0 := ⟨⟨tysOk, FlatsOk.nil⟩, GamOk.nil, by kernel_rfl⟩

def geoOfL (len : Nat) (g : Nat → Int) : Fam := ⟨Nat, fun i =>
  ⟨18, [(3, .slcc 1 i), (6, .slcc 0 len), (7, .int .i64 len), (8, .int .i64 i)], [(0, ⟨false, 23, .ints .i64 (2 * len) g, 0⟩), (1, ⟨true, 28, .ints .i64 (2 * i) g, 2⟩)], 2⟩, fun i => i ≤ len, fun i => len - i⟩

theorem more_two {i : Nat} {g : Nat → Int} {x y : Int} (hx : x = g (2 * i)) (hy : y = g (2 * i + 1)) : ∀ j, j < 2 * (i + 1) → more (2 * i) g [x, y] 0 j = g j := by
  intro j hj
  subst hx hy
  unfold more
  split
  · rfl
  · have : j = 2 * i ∨ j = 2 * i + 1 := by omega
    rcases this with rfl | rfl <;> simp

noncomputable def geoOfC : List SV → RdM
  | [.slcc n len] => .read n fun o0 => (match intsFrom .i64 o0.c with
    | some (m0, g) => .ret ⟨[.slcc 0 len], [(0, ⟨false, 23, .ints .i64 m0 g, 0⟩)], .slcc 1 len, [], [(1, ⟨true, 28, .ints .i64 (2 * len) g, 2⟩)], some (m0 = 2 * len ∧ len ≤ 2147483647)⟩
    | none => .fail)
  | _ => .fail
theorem vc_geoOf (len : Nat)  (g : Nat → Int) : runA G0 1 [(3, geoOfL len g)] [] (codeOf Tryz.f16) (init Tryz.f16.ntmps [.slcc 0 len] [(0, ⟨false, 23, .ints .i64 (2 * len) g, 0⟩)] 1) (endK G0.E.T Tryz.f16.results.toList fun S v => postP 1 ⟨[.slcc 0 len], [(0, ⟨false, 23, .ints .i64 (2 * len) g, 0⟩)], .slcc 1 len, [], [(1, ⟨true, 28, .ints .i64 (2 * len) g, 2⟩)], some (2 * len = 2 * len ∧ len ≤ 2147483647)⟩ S v) = (
(∃ (i : Nat), i ≤ len ∧ (i = (0 : Nat) ∧ (True ∧ len = len) ∧ (↑len : Int) = (↑len : Int) ∧ (0 : Int) = (↑i : Int) ∧ True) ∧ True ∧ ((2 : Nat) * len ≤ (2 : Nat) * len ∧ ∀ (i : Nat), i < (2 : Nat) * len → g i = g i) ∧ True ∧ (2 : Nat) * i = (0 : Nat)
∧ True) ∧ ∀ (i : Nat), i ≤ len → (decide ((↑i : Int) < (↑len : Int)) = true → (((0 : Int) ≤ (↑i : Int) ∧ (↑i : Int) < (↑len : Int)) ∧ (1 : Nat) ≤ (2 : Nat) * len) ∧ (0 : Nat) + Int.toNat (↑i : Int) * (2 : Nat) + (2 : Nat) ≤ (2 : Nat) * len ∧ ((2 :
Nat) * i = i * (2 : Nat) ∧ (i + (1 : Nat)) * (16 : Nat) ≤ (140737488355328 : Nat) ∧ i + (1 : Nat) ≤ (9223372036854775807 : Nat)) ∧ ∃ (i' : Nat), i' ≤ len ∧ len - i' < len - i ∧ ((True ∧ i + (1 : Nat) = i') ∧ (True ∧ len = len) ∧ (↑len : Int) = (↑len
: Int) ∧ Go.IntKind.wrap .i64 ((↑i : Int) + (1 : Int)) = (↑i' : Int) ∧ True) ∧ True ∧ ((2 : Nat) * len ≤ (2 : Nat) * len ∧ ∀ (i : Nat), i < (2 : Nat) * len → g i = g i) ∧ True ∧ ((28 : Nat) = (28 : Nat) ∧ (2 : Nat) = (2 : Nat) ∧ (2 : Nat) * i' ≤ (2 :
Nat) * i + List.length [g ((0 : Nat) + Int.toNat (↑i : Int) * (2 : Nat)), g ((0 : Nat) + Int.toNat (↑i : Int) * (2 : Nat) + (1 : Nat))] ∧ ∀ (i_1 : Nat), i_1 < (2 : Nat) * i' → Go.Sx.more ((2 : Nat) * i) g [g ((0 : Nat) + Int.toNat (↑i : Int) * (2 :
Nat)), g ((0 : Nat) + Int.toNat (↑i : Int) * (2 : Nat) + (1 : Nat))] (0 : Int) i_1 = g i_1) ∧ True) ∧ (decide ((↑i : Int) < (↑len : Int)) = false → (True ∧ i = len) ∧ True ∧ ((28 : Nat) = (28 : Nat) ∧ (2 : Nat) = (2 : Nat) ∧ (2 : Nat) * len ≤ (2 :
Nat) * i ∧ ∀ (i : Nat), i < (2 : Nat) * len → g i = g i) ∧ True)) := by kernel_rfl
theorem geoOf : ConOk Tryz.prog 16 (conR geoOfC) := by
  refine con_of_vc g0 Tryz.func16 rfl (by kernel_rfl) fun args => ?_
  unfold geoOfC
  split
  · rename_i n len
    intro o0
    show RdM.All _ (match intsFrom .i64 o0.c with | some (m, g) => _ | none => _) _
    split
    · rename_i m0 g hm0
      intro ho
      replace ho : m0 = 2 * len ∧ len ≤ 2147483647 := ho
      obtain ⟨hsz0, ho⟩ := ho
      subst hsz0
      refine ⟨?_, _, _, (vc_geoOf len g).mpr ?_⟩
      · refine okFlag_mk rfl ⟨?_, ⟨trivial, (contR_ints hm0).1, trivial⟩⟩
        simp [eqvRL, eqvR, kEq_self, fkEq_self, sgSig, fsts, nth, sameN_self]
      · refine ⟨⟨0, by simp⟩, fun i hi => ⟨fun h => ?_, fun h => ?_⟩⟩
        · have h := of_decide_eq_true h
          have e : 0 + (i : Int).toNat * 2 = 2 * i := by omega
          refine ⟨by omega, by omega, by omega, i + 1, by omega, by omega, ⟨⟨trivial, rfl⟩, ⟨trivial, rfl⟩, rfl, ?_, trivial⟩, trivial, ⟨Nat.le_refl _, fun _ _ => rfl⟩, trivial, ⟨rfl, rfl, ?_, ?_⟩, trivial⟩
          · rw [wrap64 (by omega) (by omega)]; omega
          · show 2 * (i + 1) ≤ 2 * i + 2
            omega
          · exact more_two (by rw [e]) (by rw [e])
        · have h := of_decide_eq_false h
          have : i = len := by omega
          subst this
          exact ⟨⟨trivial, rfl⟩, trivial, ⟨rfl, rfl, Nat.le_refl _, fun _ _ => rfl⟩, trivial⟩
    · trivial
  · trivial
end Go.Proofs.Tryz.Sx

/- The law's own functions: IsGeo, GeoOn, GeoLeft, Raycast by whole numbers. -/
namespace Go.Proofs.Tryz.Sx
open Go Go.Sx Go.Proofs Go.Fl Go.Geo
set_option maxRecDepth 100000

/-! ### IsGeo -/
def small (n : Int) : Prop := -1048576 ≤ n ∧ n ≤ 1048576
instance (n : Int) : Decidable (small n) := by unfold small; infer_instance
def geoAll (m : Nat) (g : Nat → Int) : Bool := decide (∀ i, i < m → small (g i))

def isGeoI (len : Nat) (g : Nat → Int) (i : Nat) : St :=
  ⟨30, [(5, .slcc 0 len), (6, .int .i64 len), (7, .int .i64 i)], [(0, ⟨false, 28, .ints .i64 (2 * len) g, 0⟩)], 1⟩

theorem isGeo_run (len : Nat) (g : Nat → Int) (hlen : len ≤ 1000000) (K : St → SV → Prop) (hK : ∀ S, K S (.bool (geoAll (2 * len) g))) (hK1 : geoAll (2 * len) g = true → ∀ S, K S .tt) (hK0 : geoAll (2 * len) g = false → ∀ S, K S .ff) :
  runC G0 1 (codeOf Tryz.f19) (init 30 [.slcc 0 len] [(0, ⟨false, 28, .ints .i64 (2 * len) g, 0⟩)] 1) (endK G0.E.T Tryz.f19.results.toList K) := by
  apply LoopOk.mk
  refine ⟨{ i : Nat // i ≤ len ∧ ∀ j, j < 2 * i → small (g j) }, fun i => isGeoI len g i.1, fun i => len - i.1, ⟨0, Nat.zero_le _, fun j hj => by omega⟩, ?_, ?_⟩
  · refine Refines.by_names [] ⟨rfl, rfl, rfl, rfl, ?_, ?_⟩
    · exact ⟨⟨rfl, trivial, rfl⟩, ⟨rfl, rfl⟩, ⟨rfl, rfl⟩, trivial⟩
    · exact ⟨⟨rfl, trivial, Nat.le_refl _, fun _ _ => rfl⟩, trivial⟩
  · rintro ⟨i, hi, hs⟩
    have bad : ∀ j, j < 2 * len → ¬ small (g j) → geoAll (2 * len) g = false := fun j hj hb => decide_eq_false (fun h => hb (h j hj))
    refine And.intro ?_ ?_
    · intro h
      have h : (i : Int) < len := of_decide_eq_true h
      have h0 : 0 + ((i : Int)).toNat * 2 = 2 * i := by omega
      refine And.intro (And.intro (And.intro (Int.natCast_nonneg _) h) (show 0 < 2 * len by omega)) ?_
      refine And.intro (show 0 + ((i : Int)).toNat * 2 + 2 ≤ 2 * len by omega) ?_
      have b0 := bad (2 * i) (by omega)
      have b1 := bad (2 * i + 1) (by omega)
      refine And.intro ?_ ?_
      · intro h1
        have h1 : g (0 + ((i : Int)).toNat * 2) < -1048576 := of_decide_eq_true h1
        rw [h0] at h1
        exact hK0 (b0 (fun hh => by unfold small at hh; omega)) _
      · intro h1
        have h1 : ¬ g (0 + ((i : Int)).toNat * 2) < -1048576 := of_decide_eq_false h1
        refine And.intro ?_ ?_
        · intro h2
          have h2 : 1048576 < g (0 + ((i : Int)).toNat * 2) := of_decide_eq_true h2
          rw [h0] at h2
          exact hK0 (b0 (fun hh => by unfold small at hh; omega)) _
        · intro h2
          have h2 : ¬ 1048576 < g (0 + ((i : Int)).toNat * 2) := of_decide_eq_false h2
          refine And.intro ?_ ?_
          · intro h3
            have h3 : g (0 + ((i : Int)).toNat * 2 + 1) < -1048576 := of_decide_eq_true h3
            rw [h0] at h3
            exact hK0 (b1 (fun hh => by unfold small at hh; omega)) _
          · intro h3
            have h3 : ¬ g (0 + ((i : Int)).toNat * 2 + 1) < -1048576 := of_decide_eq_false h3
            refine And.intro ?_ ?_
            · intro h4
              have h4 : 1048576 < g (0 + ((i : Int)).toNat * 2 + 1) := of_decide_eq_true h4
              rw [h0] at h4
              exact hK0 (b1 (fun hh => by unfold small at hh; omega)) _
            · intro h4
              have h4 : ¬ 1048576 < g (0 + ((i : Int)).toNat * 2 + 1) := of_decide_eq_false h4
              rw [h0] at h1 h2 h3 h4
              refine ⟨⟨i + 1, by omega, fun j hj => ?_⟩, by show len - (i + 1) < len - i; omega, Refines.by_names [] ⟨rfl, rfl, rfl, rfl, ?_, ?_⟩⟩
              · have : j < 2 * i ∨ j = 2 * i ∨ j = 2 * i + 1 := by omega
                rcases this with h | rfl | rfl
                · exact hs j h
                · unfold small; omega
                · unfold small; omega
              · refine ⟨⟨rfl, trivial, rfl⟩, ⟨rfl, rfl⟩, ⟨rfl, ?_⟩, trivial⟩
                show IntKind.i64.wrap ((i : Int) + 1) = ((i + 1 : Nat) : Int)
                rw [wrap64 (by omega) (by omega)]; omega
              · exact ⟨⟨rfl, trivial, Nat.le_refl _, fun _ _ => rfl⟩, trivial⟩
    · intro h
      have h : ¬ ((i : Int) < len) := of_decide_eq_false h
      have : i = len := by omega
      subst this
      exact hK1 (decide_eq_true hs) _

def isGeoC : List SV → RdM
  | [.slcc n len] => .read n fun o => match intsFrom .i64 o.c with
    | some (m, g) => .ret ⟨[.slcc 0 len], [(0, ⟨false, 28, .ints .i64 m g, 0⟩)], .bool (geoAll m g), [], [], some (m = 2 * len ∧ len ≤ 1000000)⟩
    | none => .fail
  | _ => .fail

theorem isGeo : ConOk Tryz.prog 19 (conR isGeoC) := by
  refine conR_ok g0 Tryz.func19 rfl (by kernel_rfl) fun args => ?_
  unfold isGeoC
  split
  · rename_i n len
    intro o
    show RdM.All _ (match intsFrom .i64 o.c with | some (m, g) => _ | none => _) _
    split
    · rename_i m g hm
      rintro ⟨h1, h2⟩
      subst h1
      refine ⟨?_, rfl, rfl, ?_, rfl, rfl, rfl, ?_⟩
      · exact ⟨⟨sameN_self, rfl⟩, trivial⟩
      · exact ⟨rfl, trivial, (contR_ints hm).1, trivial⟩
      · exact isGeo_run len g h2 _ (fun S => ⟨[], rfl, rfl, trivial, rfl⟩) (fun h S => ⟨[], h, rfl, trivial, rfl⟩) (fun h S => ⟨[], h, rfl, trivial, rfl⟩)
    · trivial
  · trivial

end Go.Proofs.Tryz.Sx

/- The law's own functions: sides, on, left, Raycast. -/
namespace Go.Proofs.Tryz.Sx
open Go Go.Sx Go.Proofs Go.Fl Go.Geo
set_option maxRecDepth 100000

def small6 (a b c d e f : Int) : Prop := (small a ∧ small b) ∧ (small c ∧ small d) ∧ (small e ∧ small f)

theorem mul_bound {x y : Int} {m n : Nat} (hx : x.natAbs ≤ m) (hy : y.natAbs ≤ n) : -((m * n : Nat) : Int) ≤ x * y ∧ x * y ≤ ((m * n : Nat) : Int) := by
  have := Nat.mul_le_mul hx hy
  rw [← Int.natAbs_mul] at this
  omega

theorem cross_wrap {ax ay bx by' px py : Int} (h : small6 ax ay bx by' px py) :
    IntKind.i64.wrap (IntKind.i64.wrap (IntKind.i64.wrap (bx - ax) * IntKind.i64.wrap (py - ay)) - IntKind.i64.wrap (IntKind.i64.wrap (by' - ay) * IntKind.i64.wrap (px - ax))) = cross ax ay bx by' px py := by
  unfold small6 small at h
  have m1 := mul_bound (show (bx - ax).natAbs ≤ 2097152 by omega) (show (py - ay).natAbs ≤ 2097152 by omega)
  have m2 := mul_bound (show (by' - ay).natAbs ≤ 2097152 by omega) (show (px - ax).natAbs ≤ 2097152 by omega)
  have w1 : IntKind.i64.wrap (bx - ax) = bx - ax := wrap64 (by omega) (by omega)
  have w2 : IntKind.i64.wrap (py - ay) = py - ay := wrap64 (by omega) (by omega)
  have w3 : IntKind.i64.wrap (by' - ay) = by' - ay := wrap64 (by omega) (by omega)
  have w4 : IntKind.i64.wrap (px - ax) = px - ax := wrap64 (by omega) (by omega)
  rw [w1, w2, w3, w4]
  rw [wrap64 (n := (bx - ax) * (py - ay)) (by omega) (by omega), wrap64 (n := (by' - ay) * (px - ax)) (by omega) (by omega), wrap64 (by omega) (by omega)]
  rfl

def sideF : PF := fun
  | [.agg [.int .i64 ax, .int .i64 ay], .agg [.int .i64 bx, .int .i64 by'], .agg [.int .i64 px, .int .i64 py]] =>
    some (.int .i64 (cross ax ay bx by' px py), some (small6 ax ay bx by' px py))
  | _ => none
theorem side : PureOk Tryz.prog 87 sideF := by
  refine pure_of_run g0 Tryz.func87 rfl (by kernel_rfl) ?_
  intro args v p h hp
  unfold sideF at h
  split at h
  · injection h with h; injection h with h1 h2; subst h1; subst h2
    exact ⟨rfl, rfl, rfl, cross_wrap hp⟩
  · cases h

theorem imin_le {x y z : Int} : imin x y ≤ z ↔ x ≤ z ∨ y ≤ z := by unfold imin; split <;> omega
theorem le_imax {x y z : Int} : z ≤ imax x y ↔ z ≤ x ∨ z ≤ y := by unfold imax; split <;> omega

def withinF : PF := fun
  | [.agg [.int .i64 ax, .int .i64 ay], .agg [.int .i64 bx, .int .i64 by'], .agg [.int .i64 px, .int .i64 py]] =>
    some (.bool (decide (btw ax bx px ∧ btw ay by' py)), none)
  | _ => none
theorem within : PureOk Tryz.prog 70 withinF := by
  refine pure_of_run g0 Tryz.func70 rfl (by kernel_rfl) ?_
  intro args v p h hp
  unfold withinF at h
  split at h
  · injection h with h; injection h with h1 h2; subst h1; subst h2
    refine ⟨rfl, rfl, rfl, ?_⟩
    repeat' (first | (intro h) | (refine And.intro ?_ ?_))
    all_goals (show (_ : Bool) = _)
    all_goals simp only [imin_le, le_imax, decide_eq_true_eq, decide_eq_false_iff_not] at *
    all_goals first
      | (intro hh; unfold btw at hh; omega)
      | exact decide_eq_decide.2 (by unfold btw; omega)
  · cases h

def GQ : Ctx := ⟨⟨tys, []⟩, [(70, pureCon withinF), (87, pureCon sideF)]⟩
theorem gQ : CtxOk Tryz.prog GQ := ⟨⟨tysOk, FlatsOk.nil⟩, GamOk.cons (.pure within) (GamOk.cons (.pure side) GamOk.nil), by kernel_rfl⟩

def onF : PF := fun
  | [.agg [.int .i64 ax, .int .i64 ay], .agg [.int .i64 bx, .int .i64 by'], .agg [.int .i64 px, .int .i64 py]] =>
    some (.bool (decide (On ax ay bx by' px py)), some (small6 ax ay bx by' px py))
  | _ => none
theorem on : PureOk Tryz.prog 71 onF := by
  refine pure_of_run gQ Tryz.func71 rfl (by kernel_rfl) ?_
  intro args v p h hp
  unfold onF at h
  split at h
  · rename_i ax ay bx by' px py
    injection h with h; injection h with h1 h2; subst h1; subst h2
    have hp : small6 _ _ _ _ _ _ := hp
    refine ⟨rfl, rfl, rfl, ?_⟩
    refine And.intro ?_ ?_
    · intro h
      have h := of_decide_eq_true h
      refine And.intro hp ?_
      show (cross ax ay bx by' px py == 0) = decide (On ax ay bx by' px py)
      by_cases hc : cross ax ay bx by' px py = 0
      · rw [decide_eq_true (show On ax ay bx by' px py from ⟨h.1, h.2, hc⟩), hc]; rfl
      · rw [decide_eq_false (show ¬ On ax ay bx by' px py from fun hh => hc hh.2.2)]; simpa using hc
    · intro h
      have h := of_decide_eq_false h
      exact decide_eq_false (fun hh => h ⟨hh.1, hh.2.1⟩)
  · cases h

def leftF : PF := fun
  | [.agg [.int .i64 ax, .int .i64 ay], .agg [.int .i64 bx, .int .i64 by'], .agg [.int .i64 px, .int .i64 py]] =>
    some (.bool (decide (Lft ax ay bx by' px py)), some (small6 ax ay bx by' px py))
  | _ => none
theorem left : PureOk Tryz.prog 98 leftF := by
  refine pure_of_run gQ Tryz.func98 rfl (by kernel_rfl) ?_
  intro args v p h hp
  unfold leftF at h
  split at h
  · rename_i ax ay bx by' px py
    injection h with h; injection h with h1 h2; subst h1; subst h2
    have hp : small6 _ _ _ _ _ _ := hp
    have hp' : small6 bx by' ax ay px py := ⟨hp.2.1, hp.1, hp.2.2⟩
    refine ⟨rfl, rfl, rfl, ?_⟩
    refine And.intro ?_ ?_
    · intro h
      have h := of_decide_eq_true h
      refine And.intro ?_ ?_
      · intro h1
        have h1 := of_decide_eq_true h1
        refine And.intro ?_ ?_
        · intro h2
          have h2 := of_decide_eq_true h2
          refine And.intro hp' ?_
          show decide (0 < cross bx by' ax ay px py) = decide (Lft ax ay bx by' px py)
          exact decide_eq_decide.2 (by unfold Lft; omega)
        · intro h2
          have h2 := of_decide_eq_false h2
          exact decide_eq_false (fun hh => by unfold Lft at hh; omega)
      · intro h1
        have h1 := of_decide_eq_false h1
        exact decide_eq_false (fun hh => by unfold Lft at hh; omega)
    · intro h
      have h := of_decide_eq_false h
      refine And.intro ?_ ?_
      · intro h1
        have h1 := of_decide_eq_true h1
        refine And.intro ?_ ?_
        · intro h2
          have h2 := of_decide_eq_true h2
          refine And.intro hp ?_
          show decide (0 < cross ax ay bx by' px py) = decide (Lft ax ay bx by' px py)
          exact decide_eq_decide.2 (by unfold Lft; omega)
        · intro h2
          have h2 := of_decide_eq_false h2
          exact decide_eq_false (fun hh => by unfold Lft at hh; omega)
      · intro h1
        have h1 := of_decide_eq_false h1
        exact decide_eq_false (fun hh => by unfold Lft at hh; omega)
  · cases h

/-! ### Raycast by whole numbers -/
def ptF : PF := fun
  | [.agg [.int .i64 x, .int .i64 y]] => some (.agg [.flt .f64 (ofI .f64 x), .flt .f64 (ofI .f64 y)], none)
  | _ => none
theorem pt : PureOk Tryz.prog 75 ptF := by
  refine pure_of_run g0 Tryz.func75 rfl (by kernel_rfl) ?_
  intro args v p h hp
  unfold ptF at h
  split at h
  · injection h with h; injection h with h1 h2; subst h1; subst h2
    refine ⟨rfl, rfl, rfl, ?_⟩
    exact ⟨rfl, rfl, trivial⟩
  · cases h

/-- The whole number that a float stands for. -/
noncomputable def wh (x : Nat) : Int := V x / 2 ^ U1
theorem wh_FI {x : Nat} {n : Int} (h : FI x n) : wh x = n := by
  unfold wh
  rw [h.2]
  exact Int.mul_ediv_cancel _ (Int.ne_of_gt (pow_pos' U1))

noncomputable def rayF : PF := fun
  | [.agg [.flt .f64 ax, .flt .f64 ay, .flt .f64 bx, .flt .f64 by'], .agg [.flt .f64 px, .flt .f64 py]] =>
    some (.agg [.bool (decide (¬ On (wh ax) (wh ay) (wh bx) (wh by') (wh px) (wh py) ∧ Lft (wh ax) (wh ay) (wh bx) (wh by') (wh px) (wh py))), .bool (decide (On (wh ax) (wh ay) (wh bx) (wh by') (wh px) (wh py)))],
      some (Pts ax ay bx by' px py (wh ax) (wh ay) (wh bx) (wh by') (wh px) (wh py)))
  | _ => none
theorem ray : PureOk Tryz.prog 90 rayF := by
  refine pure_of_wp gR Tryz.func90 (c := c0) rfl (by kernel_rfl) ?_
  intro args v p h hp
  unfold rayF at h
  split at h
  · injection h with h; injection h with h1 h2; subst h1; subst h2
    exact ⟨rfl, rfl, rfl, whole hp⟩
  · cases h

theorem pts_of {ax ay bx by' px py : Int} (h : small6 ax ay bx by' px py) : Pts (ofI .f64 ax) (ofI .f64 ay) (ofI .f64 bx) (ofI .f64 by') (ofI .f64 px) (ofI .f64 py) ax ay bx by' px py := by
  unfold small6 small at h
  exact ⟨FI_ofInt (by omega), FI_ofInt (by omega), FI_ofInt (by omega), FI_ofInt (by omega), FI_ofInt (by omega), FI_ofInt (by omega), by omega, by omega, by omega, by omega, by omega, by omega⟩

theorem wh_of {n : Int} (h : small n) : wh (ofI .f64 n) = n := wh_FI (FI_ofInt (by unfold small at h; omega))

def GI : Ctx := ⟨⟨tys, []⟩, []⟩
noncomputable def GJ : Ctx := ⟨⟨tys, []⟩, [(75, pureCon ptF), (90, pureCon rayF)]⟩
theorem gJ : CtxOk Tryz.prog GJ := ⟨⟨tysOk, FlatsOk.nil⟩, GamOk.cons (.pure pt) (GamOk.cons (.pure ray) GamOk.nil), by kernel_rfl⟩

def implF : PF := fun
  | [.agg [.int .i64 ax, .int .i64 ay], .agg [.int .i64 bx, .int .i64 by'], .agg [.int .i64 px, .int .i64 py]] =>
    some (.tup [.bool (decide (¬ On ax ay bx by' px py ∧ Lft ax ay bx by' px py)), .bool (decide (On ax ay bx by' px py))], some (small6 ax ay bx by' px py))
  | _ => none
set_option maxHeartbeats 2000000 in
theorem impl : PureOk Tryz.prog 62 implF := by
  refine pure_of_run gJ Tryz.func62 rfl (by kernel_rfl) ?_
  intro args v p h hp
  unfold implF at h
  split at h
  · rename_i ax ay bx by' px py
    injection h with h; injection h with h1 h2; subst h1; subst h2
    have hp : small6 ax ay bx by' px py := hp
    refine ⟨rfl, rfl, rfl, ?_⟩
    have w1 := wh_of hp.1.1
    have w2 := wh_of hp.1.2
    have w3 := wh_of hp.2.1.1
    have w4 := wh_of hp.2.1.2
    have w5 := wh_of hp.2.2.1
    have w6 := wh_of hp.2.2.2
    refine And.intro ?_ ?_
    · rw [w1, w2, w3, w4, w5, w6]; exact pts_of hp
    · refine And.intro (by kernel_rfl) ?_
      refine And.intro (by kernel_rfl) ?_
      refine And.intro ?_ (And.intro ?_ trivial)
      · show decide _ = decide (¬ On ax ay bx by' px py ∧ Lft ax ay bx by' px py)
        rw [w1, w2, w3, w4, w5, w6]
      · show decide _ = decide (On ax ay bx by' px py)
        rw [w1, w2, w3, w4, w5, w6]
  · cases h

end Go.Proofs.Tryz.Sx
