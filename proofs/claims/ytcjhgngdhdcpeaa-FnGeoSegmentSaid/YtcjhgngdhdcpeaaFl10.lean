/- A number times the rounded inverse of another one: where it stands to 0 and 1. -/
import Derived.Test.YtcjhgngdhdcpeaaFl9
namespace Go.Fl
open Go.Sx Ieee

/-- A correctly rounded whole number of least units. -/
structure Rnd (P K E : Nat) : Prop where
  up : 2 * (K * 2 ^ E) ≤ 2 * P + 2 ^ E
  dn : 2 * P ≤ 2 * (K * 2 ^ E) + 2 ^ E
  lo : E = 0 ∨ 2 ^ 52 * 2 ^ E ≤ P
  hi : P < 2 ^ 53 * 2 ^ E
  tie : 2 * (K * 2 ^ E) = 2 * P + 2 ^ E → K % 2 = 0

theorem round_spec (neg : Bool) {mag : Nat} (hm : mag ≠ 0) {place : Int} (hp : -1074 ≤ place) :
    Rnd (mag * 2 ^ (place + 1074).toNat) (keptOf neg mag place) (last mag place + 1074).toNat := by
  have hl1 := Nat.log2_self_le hm
  have hl2 : mag < 2 ^ (mag.log2 + 1) := Nat.lt_log2_self
  have hLdef : last mag place = max (place + mag.log2 - 52) (-1074) := rfl
  have hhi : mag * 2 ^ (place + 1074).toNat < 2 ^ 53 * 2 ^ (last mag place + 1074).toNat := by
    apply Nat.lt_of_lt_of_le (Nat.mul_lt_mul_of_pos_right hl2 (Nat.two_pow_pos _))
    rw [← Nat.pow_add, ← Nat.pow_add]
    exact Nat.pow_le_pow_right (by decide) (by omega)
  have hlo : (last mag place + 1074).toNat = 0 ∨ 2 ^ 52 * 2 ^ (last mag place + 1074).toNat ≤ mag * 2 ^ (place + 1074).toNat := by
    by_cases h : place + mag.log2 - 52 ≤ -1074
    · left; omega
    · right
      apply Nat.le_trans _ (Nat.mul_le_mul_right _ hl1)
      rw [← Nat.pow_add, ← Nat.pow_add]
      exact Nat.pow_le_pow_right (by decide) (by omega)
  by_cases h : last mag place ≤ place
  · have e1 : (last mag place - place).toNat = 0 := by omega
    have hk : keptOf neg mag place = mag * 2 ^ (place - last mag place).toNat := by
      unfold keptOf
      rw [e1, Nat.shiftLeft_eq]
      have := cut_exact neg (mag * 2 ^ (place - last mag place).toNat) 0
      rwa [Nat.pow_zero, Nat.mul_one] at this
    have he : keptOf neg mag place * 2 ^ (last mag place + 1074).toNat = mag * 2 ^ (place + 1074).toNat := by
      rw [hk, Nat.mul_assoc, ← Nat.pow_add]
      congr 2; omega
    have hpos : 0 < 2 ^ (last mag place + 1074).toNat := Nat.two_pow_pos _
    refine ⟨?_, ?_, hlo, hhi, ?_⟩ <;> rw [he] <;> generalize 2 ^ (last mag place + 1074).toNat = g at * <;> generalize mag * 2 ^ (place + 1074).toNat = p at * <;> omega
  · have e1 : (place - last mag place).toNat = 0 := by omega
    have hk : keptOf neg mag place = Toward.even.cut neg mag (last mag place - place).toNat := by
      unfold keptOf
      rw [e1, Nat.shiftLeft_eq, Nat.pow_zero, Nat.mul_one]
    have eE : (last mag place + 1074).toNat = (last mag place - place).toNat + (place + 1074).toNat := by omega
    obtain ⟨h1, h2⟩ := cut_err neg mag (last mag place - place).toNat
    have h3 := cut_tie neg mag (last mag place - place).toNat
    rw [← hk] at h1 h2 h3
    have hq : 0 < 2 ^ (place + 1074).toNat := Nat.two_pow_pos _
    refine ⟨?_, ?_, hlo, hhi, ?_⟩
    · rw [eE, Nat.pow_add]
      have := Nat.mul_le_mul_right (2 ^ (place + 1074).toNat) h1
      rw [Nat.add_mul] at this
      calc 2 * (keptOf neg mag place * (2 ^ (last mag place - place).toNat * 2 ^ (place + 1074).toNat)) = 2 * (keptOf neg mag place * 2 ^ (last mag place - place).toNat) * 2 ^ (place + 1074).toNat := by ac_rfl
        _ ≤ _ := this
        _ = _ := by rw [Nat.mul_assoc]
    · rw [eE, Nat.pow_add]
      have := Nat.mul_le_mul_right (2 ^ (place + 1074).toNat) h2
      rw [Nat.add_mul] at this
      calc 2 * (mag * 2 ^ (place + 1074).toNat) = 2 * mag * 2 ^ (place + 1074).toNat := by rw [Nat.mul_assoc]
        _ ≤ _ := this
        _ = _ := by ac_rfl
    · intro ht
      apply h3
      right
      rw [eE, Nat.pow_add] at ht
      apply Nat.eq_of_mul_eq_mul_right hq
      rw [Nat.add_mul]
      calc 2 * mag * 2 ^ (place + 1074).toNat + 2 ^ (last mag place - place).toNat * 2 ^ (place + 1074).toNat = 2 * (mag * 2 ^ (place + 1074).toNat) + 2 ^ (last mag place - place).toNat * 2 ^ (place + 1074).toNat := by rw [Nat.mul_assoc]
        _ = _ := ht.symm
        _ = _ := by ac_rfl

def E2 : Nat := 1022
theorem U1_E2 : U1 = 52 + E2 := rfl

theorem aux1 {z u x : Nat} (h1 : 2 ^ 53 * z ≤ 2 ^ 53 * u + u) (hu : u = 2 ^ 52 * x) : 2 * z ≤ 2 * u + x := by omega
theorem aux2 {v p z u x : Nat} (hup : 2 * v ≤ 2 * p + x) (h7 : u + x ≤ v) (h3 : p ≤ z) (h : 2 * z ≤ 2 * u + x) : 2 * v = 2 * p + x ∧ v = u + x := by omega
theorem aux3 {v p z u x e : Nat} (hup : 2 * v ≤ 2 * p + e) (h7 : u + e ≤ v) (h3 : p ≤ z) (h : 2 * z ≤ 2 * u + x) (hlo : 2 ^ 52 * e ≤ p) (hhi : p < 2 ^ 53 * e) (h8 : 2 * e ≤ x) (hu : u = 2 ^ 52 * x) : False := by omega

/-- The heart: Y is 1 / b rounded, u the one; a * Y, rounded, against u. -/
theorem inv_le {a b Y k F K E : Nat} (hY : Y = k * 2 ^ F) (hd : DivSpec k F 1 b (2 ^ U1)) (hb0 : 0 < b) (hb : b ≤ 2 ^ 44) (hr : Rnd (a * Y) K E) : K * 2 ^ E ≤ 2 ^ U1 ↔ a ≤ b := by
  have hU : U1 = 1074 := rfl
  -- |Y b - u| ≤ u / 2 ^ 53
  have h1 : 2 ^ 53 * (Y * b) ≤ 2 ^ 53 * 2 ^ U1 + 2 ^ U1 := by
    have hup := hd.up
    have hbl := hd.bl
    rw [Nat.one_mul] at hup hbl
    have e : 2 * k * (2 ^ F * b) = 2 * (Y * b) := by rw [hY]; ac_rfl
    rw [e] at hup
    generalize 2 ^ F * b = g at *
    generalize Y * b = z at *
    generalize 2 ^ U1 = u at *
    omega
  have h2 : 2 ^ 53 * 2 ^ U1 ≤ 2 ^ 53 * (Y * b) + 2 ^ U1 := by
    have hdn := hd.dn
    have hbl := hd.bl
    rw [Nat.one_mul] at hdn hbl
    have e : 2 * k * (2 ^ F * b) = 2 * (Y * b) := by rw [hY]; ac_rfl
    rw [e] at hdn
    generalize 2 ^ F * b = g at *
    generalize Y * b = z at *
    generalize 2 ^ U1 = u at *
    omega
  have hu22 : 2 ^ U1 = 2 ^ 52 * 2 ^ E2 := by rw [← Nat.pow_add, ← U1_E2]
  have hx2 : 0 < 2 ^ E2 := Nat.two_pow_pos _
  have hE2d : E2 = 1022 := rfl
  constructor
  · intro hle
    rcases Nat.lt_or_ge b a with hgt | hge
    · exfalso
      -- a * Y ≥ Y * b + Y
      have h3 : Y * b + Y ≤ a * Y := by
        calc Y * b + Y = (b + 1) * Y := by rw [Nat.add_mul, Nat.one_mul, Nat.mul_comm]
          _ ≤ a * Y := Nat.mul_le_mul_right _ hgt
      have h4 : 2 ^ U1 ≤ 2 ^ 45 * Y := by
        have : Y * b ≤ Y * 2 ^ 44 := Nat.mul_le_mul_left _ hb
        generalize 2 ^ U1 = u at *
        generalize Y * b = z at *
        omega
      have hE : E ≤ E2 := by
        rcases Nat.lt_or_ge E2 E with hc | hc
        · exfalso
          have hdn := hr.dn
          rcases hr.lo with h0 | h0
          · omega
          · have h5 : 2 ^ (E2 + 1) ≤ 2 ^ E := Nat.pow_le_pow_right (by decide) hc
            have h6 : 2 ^ (E2 + 1) = 2 * 2 ^ E2 := by rw [← Nat.pow_succ']
            generalize 2 ^ (E2 + 1) = x3 at *
            generalize 2 ^ E2 = x2 at *
            generalize 2 ^ E = e at *
            generalize K * e = v at *
            generalize a * Y = p at *
            rw [hu22] at hle
            omega
        · exact hc
      have hdn := hr.dn
      have h5 : 2 ^ E ≤ 2 ^ E2 := Nat.pow_le_pow_right (by decide) hE
      generalize 2 ^ E2 = x2 at *
      generalize 2 ^ U1 = u at *
      generalize 2 ^ E = e at *
      generalize K * e = v at *
      generalize a * Y = p at *
      generalize Y * b = z at *
      omega
    · exact hge
  · intro hab
    have h3 : a * Y ≤ Y * b := by rw [Nat.mul_comm]; exact Nat.mul_le_mul_left _ hab
    have hup := hr.up
    by_cases hE0 : E = 0
    · subst hE0
      rw [Nat.pow_zero, Nat.mul_one] at hup ⊢
      have hhi := hr.hi
      rw [Nat.pow_zero, Nat.mul_one] at hhi
      have : 2 ^ 54 ≤ 2 ^ U1 := Nat.pow_le_pow_right (by decide) (by omega)
      generalize 2 ^ U1 = u at *
      generalize a * Y = p at *
      omega
    · have hlo : 2 ^ 52 * 2 ^ E ≤ a * Y := by rcases hr.lo with h | h; exact absurd h hE0; exact h
      have hE : E ≤ E2 := by
        rcases Nat.lt_or_ge E2 E with hc | hc
        · exfalso
          have h5 : 2 ^ (E2 + 1) ≤ 2 ^ E := Nat.pow_le_pow_right (by decide) hc
          have h6 : 2 ^ (E2 + 1) = 2 * 2 ^ E2 := by rw [← Nat.pow_succ']
          rw [hu22] at h1
          generalize 2 ^ (E2 + 1) = x3 at *
          generalize 2 ^ E2 = x2 at *
          generalize 2 ^ E = e at *
          generalize a * Y = p at *
          generalize Y * b = z at *
          omega
        · exact hc
      -- u is a multiple of 2 ^ E
      have hm : 2 ^ U1 = 2 ^ (U1 - E) * 2 ^ E := by rw [← Nat.pow_add, Nat.sub_add_cancel (by omega)]
      have hK : K ≤ 2 ^ (U1 - E) := by
        rcases Nat.lt_or_ge (2 ^ (U1 - E)) K with hc | hc
        · exfalso
          have h7 : (2 ^ (U1 - E) + 1) * 2 ^ E ≤ K * 2 ^ E := Nat.mul_le_mul_right _ hc
          rw [Nat.add_mul, Nat.one_mul, ← hm] at h7
          by_cases hE2 : E = E2
          · subst hE2
            have htie := hr.tie
            have h77 : 2 * (K * 2 ^ E2) = 2 * (a * Y) + 2 ^ E2 ∧ K * 2 ^ E2 = 2 ^ U1 + 2 ^ E2 := aux2 hup h7 h3 (aux1 h1 hu22)
            obtain ⟨hKo, hKeq⟩ := h77
            have hev := htie hKo
            have hK1 : K = 2 ^ (U1 - E2) + 1 := by
              apply Nat.eq_of_mul_eq_mul_right (Nat.two_pow_pos E2)
              rw [hKeq, Nat.add_mul, Nat.one_mul, ← hm]
            have h52 : U1 - E2 = 52 := by omega
            rw [h52] at hK1
            omega
          · have h8 : 2 * 2 ^ E ≤ 2 ^ E2 := by
              rw [← Nat.pow_succ']
              exact Nat.pow_le_pow_right (by decide) (by omega)
            exact aux3 hup h7 h3 (aux1 h1 hu22) hlo hr.hi h8 hu22
        · exact hc
      rw [hm]
      exact Nat.mul_le_mul_right _ hK

theorem zero_FI : FI 0 0 := ⟨fin_zero, by rw [V_zero, Int.zero_mul]⟩

theorem inv_big {b Y k F : Nat} (hY : Y = k * 2 ^ F) (hd : DivSpec k F 1 b (2 ^ U1)) (hb0 : 0 < b) (hb : b ≤ 2 ^ 44) : 2 ^ U1 ≤ 2 ^ 45 * Y ∧ Y ≤ 2 * 2 ^ U1 := by
  have hup := hd.up
  have hdn := hd.dn
  have hbl := hd.bl
  rw [Nat.one_mul] at hup hdn hbl
  have e : 2 * k * (2 ^ F * b) = 2 * (Y * b) := by rw [hY]; ac_rfl
  rw [e] at hup hdn
  have h1 : Y * b ≤ Y * 2 ^ 44 := Nat.mul_le_mul_left _ hb
  have h2 : Y ≤ Y * b := Nat.le_mul_of_pos_right _ hb0
  clear hd hY e
  generalize 2 ^ F * b = g at *
  generalize 2 ^ U1 = u at *
  generalize Y * b = z at *
  have hgu : g ≤ u := by omega
  clear hbl
  have h3 : u ≤ 2 * z := by omega
  have h4 : z ≤ 2 * u := by omega
  clear hup hdn hgu hb
  exact ⟨by omega, by omega⟩

/-- A times the inverse of B. -/
theorem tu {A B r : Nat} {n w : Int} (hA : FI A n) (hB : FI B w) (hw : w ≠ 0) (hn : n.natAbs ≤ 2 ^ 44) (hw2 : w.natAbs ≤ 2 ^ 44) (h : QuoRel .f64 4607182418800017408 B r) :
    fok .mul .f64 A r ∧ fGe .f64 (fop .mul .f64 A r) 0 = decide (0 ≤ n * w) ∧ (0 ≤ n * w → fLe .f64 (fop .mul .f64 A r) 4607182418800017408 = decide (n.natAbs ≤ w.natAbs)) := by
  obtain ⟨q, d1, d2, k, F, d3, d4⟩ := FI_div one_FI hB (by decide) hw (by omega) (by decide)
  have hq : floatBits .quo .f64 4607182418800017408 B = some q := d1
  unfold QuoRel at h
  rw [hq] at h
  have h : q = r := h.symm
  subst h
  have hd0 : decide ((1 : Int) < 0) = false := rfl
  rw [hd0, Bool.false_xor] at d4
  rw [show (1 : Int).natAbs = 1 from rfl] at d3
  obtain ⟨Y, hY⟩ : ∃ Y, Y = k * 2 ^ F := ⟨_, rfl⟩
  rw [← hY] at d4
  obtain ⟨b1, b2⟩ := inv_big hY d3 (by omega) hw2
  have hp : 0 < 2 ^ U1 := Nat.two_pow_pos _
  have hY0 : 0 < Y := by
    generalize 2 ^ U1 = u at *
    omega
  have hYb : 2 ^ U0 ≤ Y := by
    have h1 : 2 ^ U0 * 2 ^ 45 ≤ 2 ^ U1 := by
      rw [← Nat.pow_add]
      exact Nat.pow_le_pow_right (by decide) (by decide)
    generalize 2 ^ U1 = u at *
    generalize 2 ^ U0 = u0 at *
    omega
  have hVabs : (V q).natAbs = Y := by rw [d4]; split <;> omega
  have hVs : decide (V q < 0) = decide (w < 0) := by
    rw [d4]
    by_cases hneg : w < 0
    · rw [decide_eq_true hneg]; simp only [if_true]; exact decide_eq_true (by omega)
    · rw [decide_eq_false hneg]; simp only [Bool.false_eq_true, if_false]; exact decide_eq_false (by omega)
  by_cases h0 : n = 0
  · subst h0
    have hv0 : V A = 0 := by rw [hA.2, Int.zero_mul]
    obtain ⟨t, m1, m2⟩ := mul_zero' hA.1 d2 (.inl hv0)
    have m3 : floatBits .mul .f64 A q = some t := m1
    have hf : fop .mul .f64 A q = t := by unfold fop; rw [m3]; rfl
    refine ⟨by unfold fok; rw [m3]; rfl, ?_, fun _ => ?_⟩
    · rw [hf, fge_I m2 zero_FI, Int.zero_mul]
    · rw [hf, fle_I m2 one_FI]
      exact decide_eq_decide.2 (by omega)
  · have hpi := pow_pos' U1
    have hv0 : V A ≠ 0 := by
      rw [hA.2]
      intro e
      rcases Int.mul_eq_zero.1 e with e | e
      · exact h0 e
      · omega
    have hq0 : V q ≠ 0 := by omega
    obtain ⟨mag, place, m1, m2, m3, m4⟩ := mul_read hA.1 d2 (big_FI hA) (.inr (by rw [hVabs]; exact hYb)) hv0 hq0
    have hP : mag * 2 ^ (place + 1074).toNat = n.natAbs * Y := by
      apply Nat.eq_of_mul_eq_mul_right hp
      rw [m4, hVabs, hA.2, Int.natAbs_mul, natAbs_pow2, Nat.mul_right_comm]
    have hlog : place + mag.log2 ≤ 1022 := by
      have h1 : 2 ^ mag.log2 * 2 ^ (place + 1074).toNat ≤ 2 ^ 45 * 2 ^ U1 := by
        apply Nat.le_trans (Nat.mul_le_mul_right _ (Nat.log2_self_le m2))
        rw [hP]
        apply Nat.le_trans (Nat.mul_le_mul hn b2)
        generalize 2 ^ U1 = u
        omega
      rw [← Nat.pow_add, ← Nat.pow_add] at h1
      have h2 := (Nat.pow_le_pow_iff_right (by decide : 1 < 2)).1 h1
      have : U1 = 1074 := rfl
      omega
    obtain ⟨f1, f2⟩ := nearest_V (decide (V A < 0) ^^ decide (V q < 0)) m2 hlog
    have hR := round_spec (decide (V A < 0) ^^ decide (V q < 0)) m2 m3
    have hpos := (near_bounds (decide (V A < 0) ^^ decide (V q < 0)) m2 m3).1
    rw [hP] at hR
    have hsA : decide (V A < 0) = decide (n < 0) := by
      refine decide_eq_decide.2 ?_
      rw [hA.2]
      constructor
      · intro hh
        rcases Int.lt_or_le n 0 with h1 | h1
        · exact h1
        · have := Int.mul_nonneg h1 (Int.le_of_lt hpi); omega
      · intro hh; exact Int.mul_neg_of_neg_of_pos hh hpi
    rw [hsA, hVs] at f1 f2 hR hpos m1
    have m5 : floatBits .mul .f64 A q = some (double.nearest (decide (n < 0) ^^ decide (w < 0)) mag place) := m1
    have hf : fop .mul .f64 A q = double.nearest (decide (n < 0) ^^ decide (w < 0)) mag place := by unfold fop; rw [m5]; rfl
    have hle := inv_le hY d3 (by omega) hw2 hR
    have hpc : ∀ k : Nat, ((2 ^ k : Nat) : Int) = 2 ^ k := fun k => by rw [Int.natCast_pow]; rfl
    have hone : V 4607182418800017408 = ((2 ^ U1 : Nat) : Int) := by rw [one_FI.2, Int.one_mul, hpc]
    generalize hv : keptOf (decide (n < 0) ^^ decide (w < 0)) mag place * 2 ^ (last mag place + 1074).toNat = v at *
    refine ⟨by unfold fok; rw [m5]; rfl, ?_, fun hnn => ?_⟩
    · rw [hf, fge_V f1 fin_zero, V_zero, f2]
      refine decide_eq_decide.2 ?_
      have hms := mul_sign n w
      have hab : 0 < n.natAbs * w.natAbs := Nat.mul_pos (by omega) (by omega)
      generalize n.natAbs * w.natAbs = m at *
      rw [hms]
      cases (decide (n < 0) ^^ decide (w < 0))
      · simp only [Bool.false_eq_true, if_false]; omega
      · simp only [if_true]; omega
    · rw [hf, fle_V f1 one_FI.1, hone, f2]
      refine decide_eq_decide.2 ?_
      have hms := mul_sign n w
      have hab : 0 < n.natAbs * w.natAbs := Nat.mul_pos (by omega) (by omega)
      generalize n.natAbs * w.natAbs = m at *
      rw [hms] at hnn
      revert hnn
      cases (decide (n < 0) ^^ decide (w < 0))
      · simp only [Bool.false_eq_true, if_false]
        intro _
        rw [← hle]
        exact Int.ofNat_le
      · simp only [if_true]
        intro hnn; omega
end Go.Fl
