/- The next float above a whole number; what stands so near to it, and what it is divided by whole numbers. -/
import Derived.Test.YtcjhgngdhdcpeaaFl5
namespace Go.Fl
open Ieee

theorem rmag_succ (r : Nat) : rmag (r + 1) = rmag r + 2 ^ (r / 2 ^ 52 - 1) := by
  by_cases h : r < 2 ^ 52
  · have h0 : r / 2 ^ 52 = 0 := Nat.div_eq_of_lt h
    rw [h0, rmag_small h]
    by_cases h1 : r + 1 < 2 ^ 52
    · rw [rmag_small h1]
    · have : r + 1 = (0 + 1) * 2 ^ 52 + 0 := by omega
      rw [this, rmag_at 0 0 (by decide)]
  · obtain ⟨E, f, hf, he⟩ : ∃ E f, f < 2 ^ 52 ∧ r = (E + 1) * 2 ^ 52 + f := ⟨r / 2 ^ 52 - 1, r % 2 ^ 52, Nat.mod_lt _ (by decide), by omega⟩
    have hd : r / 2 ^ 52 - 1 = E := by omega
    rw [hd, he, rmag_at E f hf]
    by_cases h1 : f + 1 < 2 ^ 52
    · rw [show (E + 1) * 2 ^ 52 + f + 1 = (E + 1) * 2 ^ 52 + (f + 1) by omega, rmag_at E (f + 1) h1, ← Nat.add_assoc, Nat.add_mul, Nat.one_mul]
    · have h2 : f = 2 ^ 52 - 1 := by omega
      rw [show (E + 1) * 2 ^ 52 + f + 1 = (E + 1 + 1) * 2 ^ 52 + 0 by omega, rmag_at (E + 1) 0 (by decide), h2]
      rw [Nat.pow_succ]
      omega

theorem rmag_step (r : Nat) : 2 ^ 52 * 2 ^ (r / 2 ^ 52 - 1) ≤ rmag r + 2 ^ 52 := by
  by_cases h : r < 2 ^ 52
  · have h0 : r / 2 ^ 52 = 0 := Nat.div_eq_of_lt h
    rw [h0]; omega
  · obtain ⟨E, f, hf, he⟩ : ∃ E f, f < 2 ^ 52 ∧ r = (E + 1) * 2 ^ 52 + f := ⟨r / 2 ^ 52 - 1, r % 2 ^ 52, Nat.mod_lt _ (by decide), by omega⟩
    have hd : r / 2 ^ 52 - 1 = E := by omega
    rw [hd, he, rmag_at E f hf, Nat.add_mul]
    omega

theorem V_pos {x : Nat} (h : x < 2 ^ 63) : V x = rmag x := by
  unfold V
  rw [if_neg (by omega), Nat.mod_eq_of_lt h]

theorem V_neg {r : Nat} (h : r < 2 ^ 63) : V (2 ^ 63 + r) = -(rmag r : Int) := by
  unfold V
  rw [if_pos (by omega), show (2 ^ 63 + r) % 2 ^ 63 = r by omega]

/-- A step is small where the number is. -/
theorem step_small {r : Nat} {b : Nat} (hr : rmag r ≤ 2 ^ (52 + b)) : r / 2 ^ 52 - 1 ≤ b + 1 := by
  have h1 := rmag_step r
  rcases Nat.lt_or_ge (b + 1) (r / 2 ^ 52 - 1) with h | h
  · exfalso
    have h2 : 2 ^ (b + 2) ≤ 2 ^ (r / 2 ^ 52 - 1) := Nat.pow_le_pow_right (by decide) h
    have h3 : 2 ^ 52 * 2 ^ (b + 2) ≤ rmag r + 2 ^ 52 := Nat.le_trans (Nat.mul_le_mul_left _ h2) h1
    have h4 : 2 ^ (52 + b) = 2 ^ 52 * 2 ^ b := Nat.pow_add 2 52 b
    have h5 : 2 ^ 52 * 2 ^ (b + 2) = 4 * (2 ^ 52 * 2 ^ b) := by rw [Nat.pow_add 2 b 2]; omega
    have h6 : 2 ^ 52 ≤ 2 ^ 52 * 2 ^ b := Nat.le_mul_of_pos_right _ (Nat.two_pow_pos _)
    omega
  · exact h

/-- The next float above. -/
def nxt (x : Nat) : Nat := if V x = 0 then 1 else if 0 < V x then x + 1 else x - 1

theorem nxt_spec {x : Nat} {n : Int} (h : FI x n) (hn : n.natAbs ≤ 2 ^ 22) : x + 1 < 18446744073709551616 ∧ Fin (nxt x) ∧ ∃ k, k ≤ 1045 ∧ V (nxt x) = n * 2 ^ U1 + ((2 ^ k : Nat) : Int) := by
  obtain ⟨⟨h64, hrung⟩, hv⟩ := h
  have hU : U1 = 1074 := rfl
  obtain ⟨b, hb⟩ : ∃ b : Nat, b = 1044 := ⟨_, rfl⟩
  have hbU : 22 + U1 = 52 + b := by omega
  have hmag : n.natAbs * 2 ^ U1 ≤ 2 ^ (52 + b) := by
    rw [← hbU, Nat.pow_add]; exact Nat.mul_le_mul_right _ hn
  have hpow : (2 : Int) ^ U1 = ((2 ^ U1 : Nat) : Int) := by simp
  have habs : (V x).natAbs = n.natAbs * 2 ^ U1 := by rw [hv, Int.natAbs_mul, natAbs_pow2]
  rw [← habs] at hmag
  refine ⟨by omega, ?_⟩
  unfold nxt
  by_cases h0 : V x = 0
  · rw [if_pos h0]
    have h1 : V 1 = 1 := by decide
    refine ⟨⟨by decide, by decide⟩, 0, by omega, ?_⟩
    rw [h1, ← hv, h0]; rfl
  · rw [if_neg h0]
    rcases Nat.lt_or_ge x (2 ^ 63) with hlo | hhi
    · have hVx := V_pos hlo
      have hpos : 0 < V x := by rw [hVx] at h0 ⊢; omega
      rw [if_pos hpos]
      rw [Nat.mod_eq_of_lt hlo] at hrung
      rw [hVx, Int.natAbs_natCast] at hmag
      have hs := step_small hmag
      have hx1 : x + 1 < 2 ^ 63 := by omega
      refine ⟨⟨by omega, by rw [Nat.mod_eq_of_lt hx1]; omega⟩, x / 2 ^ 52 - 1, by omega, ?_⟩
      rw [V_pos hx1, rmag_succ, ← hv, hVx]
      exact Int.natCast_add _ _
    · obtain ⟨r, rfl⟩ : ∃ r, x = 2 ^ 63 + r := ⟨x - 2 ^ 63, by omega⟩
      have hr63 : r < 2 ^ 63 := by omega
      have hVx := V_neg hr63
      have hneg : ¬ 0 < V (2 ^ 63 + r) := by rw [hVx]; omega
      rw [if_neg hneg]
      have hr0 : r ≠ 0 := fun e => by subst e; exact h0 (by decide)
      obtain ⟨s, rfl⟩ : ∃ s, r = s + 1 := ⟨r - 1, by omega⟩
      have hm : (2 ^ 63 + (s + 1)) % 2 ^ 63 = s + 1 := by omega
      rw [hm] at hrung
      rw [hVx, Int.natAbs_neg, Int.natAbs_natCast] at hmag
      have hms : rmag s ≤ 2 ^ (52 + b) := by rw [rmag_succ] at hmag; exact Nat.le_trans (Nat.le_add_right _ _) hmag
      have hs := step_small hms
      have e : 2 ^ 63 + (s + 1) - 1 = 2 ^ 63 + s := by omega
      rw [e]
      refine ⟨⟨by omega, by omega⟩, s / 2 ^ 52 - 1, by omega, ?_⟩
      rw [V_neg (by omega), ← hv, hVx, rmag_succ, Int.natCast_add]
      omega

/-- Rounded, a positive number stays positive and is at most doubled. -/
theorem near_bounds (neg : Bool) {mag : Nat} (hm : mag ≠ 0) {place : Int} (hp : -1074 ≤ place) :
    0 < keptOf neg mag place * 2 ^ (last mag place + 1074).toNat ∧ keptOf neg mag place * 2 ^ (last mag place + 1074).toNat ≤ 2 * (mag * 2 ^ (place + 1074).toNat) := by
  obtain ⟨hk1, hk2⟩ := kept_bounds neg hm place
  obtain ⟨e1, e2⟩ := cut_err neg (mag <<< (place - last mag place).toNat) (last mag place - place).toNat
  have hl0 : -1074 ≤ last mag place := by unfold last; omega
  have hkd : keptOf neg mag place = Toward.even.cut neg (mag <<< (place - last mag place).toNat) (last mag place - place).toNat := rfl
  rw [← hkd] at e1 e2
  rw [Nat.shiftLeft_eq] at e1 e2
  generalize keptOf neg mag place = k at *
  generalize last mag place = l at *
  by_cases hs : l ≤ place
  · have h0 : (l - place).toNat = 0 := by omega
    rw [h0] at e1 e2
    simp only [Nat.pow_zero, Nat.mul_one] at e1 e2
    have hk : k = mag * 2 ^ (place - l).toNat := by omega
    have e3 : k * 2 ^ (l + 1074).toNat = mag * 2 ^ (place + 1074).toNat := by
      rw [hk, Nat.mul_assoc, ← Nat.pow_add]; congr 2; omega
    rw [e3]
    have : 0 < mag * 2 ^ (place + 1074).toNat := Nat.mul_pos (by omega) (Nat.two_pow_pos _)
    omega
  · have h0 : (place - l).toNat = 0 := by omega
    rw [h0] at e1 e2
    simp only [Nat.pow_zero, Nat.mul_one] at e1 e2
    have hk : 2 ^ 52 ≤ k := by rcases hk2 with h | h <;> omega
    refine ⟨Nat.mul_pos (by omega) (Nat.two_pow_pos _), ?_⟩
    have e3 : (l + 1074).toNat = (l - place).toNat + (place + 1074).toNat := by omega
    rw [e3, Nat.pow_add, ← Nat.mul_assoc, ← Nat.mul_assoc]
    refine Nat.mul_le_mul_right _ ?_
    generalize 2 ^ (l - place).toNat = g at *
    have hg : g ≤ k * g := Nat.le_mul_of_pos_left _ (by omega)
    omega

/-- What stands a little above a whole number, less that number: still little, and above 0. -/
theorem sub_near {p y : Nat} {n : Int} {k : Nat} (hp : Fin p) (hv : V p = n * 2 ^ U1 + ((2 ^ k : Nat) : Int)) (hk : k ≤ 1045) (hy : FI y n) :
    ∃ r, double.sub p y = some r ∧ Fin r ∧ 0 < V r ∧ V r ≤ ((2 ^ (k + 1) : Nat) : Int) := by
  obtain ⟨s, m, i, h1, h2, h3, _⟩ := read_fin hp
  obtain ⟨t, l, j, h4, h5, h6, _⟩ := read_fin hy.1
  rw [hy.2] at h6
  refine ⟨double.write ((Datum.number (if signed s m (i - min i j).toNat + signed (!t) l (j - min i j).toNat = 0 then s && !t else decide (signed s m (i - min i j).toNat + signed (!t) l (j - min i j).toNat < 0)) (signed s m (i - min i j).toNat + signed (!t) l (j - min i j).toNat).natAbs (min i j))), ?_, ?_⟩
  · unfold Format.sub
    rw [h1, h4]; rfl
  · generalize htot : signed s m (i - min i j).toNat + signed (!t) l (j - min i j).toNat = tot
    have e1 : (i + 1074).toNat = (i - min i j).toNat + (min i j + 1074).toNat := by omega
    have e2 : (j + 1074).toNat = (j - min i j).toNat + (min i j + 1074).toNat := by omega
    have h7 : signed (!t) l (j + 1074).toNat = -(n * 2 ^ U1) := by rw [signed_not, h6]
    have hkey : tot * 2 ^ (min i j + 1074).toNat = ((2 ^ k : Nat) : Int) := by
      have : signed s m (i + 1074).toNat + signed (!t) l (j + 1074).toNat = ((2 ^ k : Nat) : Int) := by rw [h3, h7, hv]; omega
      rw [e1, e2, signed_add, signed_add, ← Int.add_mul, htot] at this
      exact this
    have hpk : (0 : Int) < ((2 ^ k : Nat) : Int) := Int.natCast_pos.2 (Nat.two_pow_pos k)
    have htpos : 0 < tot := by
      rcases Int.lt_or_le 0 tot with h | h
      · exact h
      · have := Int.mul_nonneg (show 0 ≤ -tot by omega) (Int.le_of_lt (pow_pos' (min i j + 1074).toNat))
        rw [Int.neg_mul] at this; omega
    have hnat : tot.natAbs * 2 ^ (min i j + 1074).toNat = 2 ^ k := by
      have := congrArg Int.natAbs hkey
      rw [Int.natAbs_mul, natAbs_pow2, Int.natAbs_natCast] at this
      exact this
    have hm0 : tot.natAbs ≠ 0 := by omega
    have hlog : (min i j) + tot.natAbs.log2 ≤ 1022 := by
      have h8 := Nat.log2_self_le hm0
      have h9 : 2 ^ tot.natAbs.log2 * 2 ^ (min i j + 1074).toNat ≤ 2 ^ k := by rw [← hnat]; exact Nat.mul_le_mul_right _ h8
      rw [← Nat.pow_add] at h9
      have h10 := (Nat.pow_le_pow_iff_right (by decide : 1 < 2)).1 h9
      omega
    rw [if_neg (by omega), decide_eq_false (by omega)]
    show Fin (double.nearest false tot.natAbs (min i j)) ∧ 0 < V (double.nearest false tot.natAbs (min i j)) ∧ V (double.nearest false tot.natAbs (min i j)) ≤ _
    obtain ⟨h11, h12⟩ := nearest_V false hm0 (place := min i j) hlog
    obtain ⟨h13, h14⟩ := near_bounds false hm0 (place := min i j) (by omega)
    refine ⟨h11, ?_, ?_⟩
    · rw [h12]; simp only [Bool.false_eq_true, if_false]; omega
    · rw [h12]; simp only [Bool.false_eq_true, if_false]
      rw [hnat] at h14
      rw [Nat.pow_succ]; omega

/-- What is little stays little when it is divided by a whole number, with that one's sign (or it becomes 0). -/
theorem div_little {x y : Nat} {d : Int} {k : Nat} (hx : Fin x) (h0 : 0 < V x) (hk : V x ≤ ((2 ^ k : Nat) : Int)) (hk2 : k ≤ 1047) (hy : FI y d) (hd : d ≠ 0) :
    ∃ r, double.div x y = some r ∧ Fin r ∧ (0 < d → 0 ≤ V r) ∧ (d < 0 → V r ≤ 0) ∧ (V r).natAbs ≤ 2 ^ (k + 1) := by
  obtain ⟨s, m, i, h1, h2, h3, hm⟩ := read_fin hx
  obtain ⟨t, n, j, h4, h5, h6, hn⟩ := read_fin hy.1
  rw [hy.2] at h6
  have hmv : m * 2 ^ (i + 1074).toNat = (V x).natAbs := by rw [← h3, signed_natAbs]
  have hnb : n * 2 ^ (j + 1074).toNat = d.natAbs * 2 ^ U1 := by
    have := congrArg Int.natAbs h6
    rw [signed_natAbs, Int.natAbs_mul, natAbs_pow2] at this
    exact this
  have hm0 : m ≠ 0 := fun e => by rw [e, Nat.zero_mul] at hmv; omega
  have hn0 : n ≠ 0 := fun e => by
    rw [e, Nat.zero_mul] at hnb
    rcases Nat.mul_eq_zero.1 hnb.symm with h | h
    · omega
    · exact absurd h (Nat.ne_of_gt (Nat.two_pow_pos _))
  have hj := place_lo h5 hn (show d.natAbs ≠ 0 by omega) hnb
  have hs : s = false := by
    cases s
    · rfl
    · rw [signed_mag] at h3
      simp only [if_true] at h3
      omega
  have ht : t = decide (d < 0) := by
    have hp := pow_pos' U1
    rw [signed_mag] at h6
    cases t
    · simp only [Bool.false_eq_true, if_false] at h6
      have h7 : 0 ≤ d * 2 ^ U1 := by rw [← h6]; exact Int.natCast_nonneg _
      have : ¬ d < 0 := fun hneg => by have := Int.mul_neg_of_neg_of_pos hneg hp; omega
      exact (decide_eq_false this).symm
    · simp only [if_true] at h6
      have h9 : d * 2 ^ U1 ≤ 0 := by rw [← h6]; exact Int.neg_nonpos_of_nonneg (Int.natCast_nonneg _)
      have : d < 0 := by
        rcases Int.lt_or_le d 0 with h10 | h10
        · exact h10
        · have : 0 < d := by omega
          have := Int.mul_pos this hp; omega
      exact (decide_eq_true this).symm
  have hU : U1 = 1074 := rfl
  -- the quotient's digits
  have hlm : m.log2 ≤ 52 := by have := (Nat.log2_lt hm0).2 hm; omega
  have hln : n.log2 ≤ 52 := by have := (Nat.log2_lt hn0).2 hn; omega
  have hmore : 54 + n.log2 - m.log2 + m.log2 = 54 + n.log2 := by omega
  generalize hmo : 54 + n.log2 - m.log2 = more at *
  refine ⟨double.nearest (s ^^ t) (2 * (m <<< more / n) + (m <<< more % n != 0).toNat) (i - j - more - 1), ?_, ?_⟩
  · unfold Format.div
    rw [h1, h4]
    show Option.map double.write (Datum.quotient (52 + 2) _ _) = _
    unfold Datum.quotient
    simp only [hn0, if_false]
    rw [show 52 + 2 + n.log2 - m.log2 = more from hmo]
    rfl
  · rw [Nat.shiftLeft_eq]
    generalize hdv : m * 2 ^ more = dv
    have hm1 := Nat.log2_self_le hm0
    have hm2 : m < 2 ^ (m.log2 + 1) := Nat.lt_log2_self
    have hn1 := Nat.log2_self_le hn0
    have hn2 : n < 2 ^ (n.log2 + 1) := Nat.lt_log2_self
    have hdv1 : 2 ^ (54 + n.log2) ≤ dv := by
      rw [← hdv, ← hmore, Nat.add_comm more, Nat.pow_add]
      exact Nat.mul_le_mul_right _ hm1
    have hdv2 : dv < 2 ^ (55 + n.log2) := by
      rw [← hdv, show 55 + n.log2 = (m.log2 + 1) + more by omega, Nat.pow_add]
      exact Nat.mul_lt_mul_of_pos_right hm2 (Nat.two_pow_pos _)
    have hq1 : 2 ^ 53 ≤ dv / n := by
      rw [Nat.le_div_iff_mul_le (by omega)]
      have h8 : 2 ^ 53 * n ≤ 2 ^ 53 * 2 ^ (n.log2 + 1) := Nat.mul_le_mul_left _ (by omega)
      rw [← Nat.pow_add, show 53 + (n.log2 + 1) = 54 + n.log2 by omega] at h8
      omega
    have hq2 : dv / n < 2 ^ 55 := by
      rw [Nat.div_lt_iff_lt_mul (by omega)]
      have h8 : 2 ^ 55 * 2 ^ n.log2 ≤ 2 ^ 55 * n := Nat.mul_le_mul_left _ hn1
      rw [← Nat.pow_add] at h8
      omega
    have hb1 : (dv % n != 0).toNat ≤ 1 := Bool.toNat_le _
    have hQn : (2 * (dv / n) + (dv % n != 0).toNat) * n ≤ 2 * dv + n := by
      have h8 : dv / n * n ≤ dv := Nat.div_mul_le_self _ _
      have h9 : (dv % n != 0).toNat * n ≤ 1 * n := Nat.mul_le_mul_right _ hb1
      rw [Nat.add_mul, Nat.mul_assoc]
      omega
    generalize hQ : 2 * (dv / n) + (dv % n != 0).toNat = Q at *
    have hQ0 : Q ≠ 0 := by omega
    have hQ1 : 2 ^ 54 ≤ Q := by omega
    have hQ2 : Q < 2 ^ 57 := by omega
    have hQl : 54 ≤ Q.log2 := (Nat.le_log2 hQ0).2 hQ1
    have hQl2 : Q.log2 ≤ 56 := by have := (Nat.log2_lt hQ0).2 hQ2; omega
    -- where x stands
    have hi : i + m.log2 ≤ k - 1074 := by
      have h8 : 2 ^ m.log2 * 2 ^ (i + 1074).toNat ≤ 2 ^ k := by
        refine Nat.le_trans (Nat.mul_le_mul_right _ hm1) ?_
        rw [hmv]; omega
      rw [← Nat.pow_add] at h8
      have h10 := (Nat.pow_le_pow_iff_right (by decide : 1 < 2)).1 h8
      omega
    generalize hpl : i - j - (more : Int) - 1 = pl at *
    have hlog : pl + Q.log2 ≤ 1022 := by omega
    obtain ⟨h11, h12⟩ := nearest_V (s ^^ t) hQ0 (place := pl) hlog
    obtain ⟨hk1, hk2'⟩ := kept_bounds (s ^^ t) hQ0 pl
    obtain ⟨e1, e2⟩ := cut_err (s ^^ t) (Q <<< (pl - last Q pl).toNat) (last Q pl - pl).toNat
    have hkd : keptOf (s ^^ t) Q pl = Toward.even.cut (s ^^ t) (Q <<< (pl - last Q pl).toNat) (last Q pl - pl).toNat := rfl
    rw [← hkd, Nat.shiftLeft_eq] at e1
    have hl1 : pl + 2 ≤ last Q pl := by unfold last; omega
    have hl0 : -1074 ≤ last Q pl := by unfold last; omega
    generalize keptOf (s ^^ t) Q pl = kp at *
    generalize last Q pl = l at *
    have hz : (pl - l).toNat = 0 := by omega
    rw [hz, Nat.pow_zero, Nat.mul_one] at e1
    -- (kp - 1) * 2 ^ D * n <= 2 dv
    have hmain : (kp - 1) * (2 ^ (l - pl).toNat * n) ≤ 2 * dv := by
      have hD : 4 ≤ 2 ^ (l - pl).toNat := by
        have : 2 ^ 2 ≤ 2 ^ (l - pl).toNat := Nat.pow_le_pow_right (by decide) (by omega)
        omega
      generalize 2 ^ (l - pl).toNat = g at *
      have h8 : 2 * (kp * g) * n ≤ (2 * Q + g) * n := Nat.mul_le_mul_right _ e1
      rw [Nat.add_mul, Nat.mul_assoc 2 Q n] at h8
      have h9 : 4 * n ≤ g * n := Nat.mul_le_mul_right _ hD
      rcases Nat.eq_zero_or_pos kp with hkp | hkp
      · subst hkp; simp
      · obtain ⟨c, rfl⟩ : ∃ c, kp = c + 1 := ⟨kp - 1, by omega⟩
        rw [Nat.add_sub_cancel]
        have h10 : 2 * ((c + 1) * g) * n = 2 * (c * (g * n)) + 2 * (g * n) := by
          rw [Nat.add_mul, Nat.one_mul, Nat.mul_add, Nat.add_mul, Nat.mul_assoc 2 (c * g) n, Nat.mul_assoc c g n, Nat.mul_assoc 2 g n]
        rw [h10] at h8
        omega
    -- in least units
    have hX : (kp - 1) * 2 ^ (l + 1074).toNat * d.natAbs ≤ (V x).natAbs := by
      have h8 : (kp - 1) * (2 ^ (l - pl).toNat * n) * 2 ^ ((j + 1074).toNat + more + 1 + (l + 1074).toNat) ≤ 2 * dv * 2 ^ ((j + 1074).toNat + more + 1 + (l + 1074).toNat) := Nat.mul_le_mul_right _ hmain
      have e3 : (l - pl).toNat + (i + 1074).toNat = (l + 1074).toNat + (j + 1074).toNat + more + 1 - 1074 + 0 ∨ True := .inr trivial
      have e4 : (l - pl).toNat + (i + 1074).toNat + U1 = (j + 1074).toNat + more + 1 + (l + 1074).toNat := by rw [hU]; omega
      have h9 : (kp - 1) * (2 ^ (l - pl).toNat * n) * 2 ^ ((j + 1074).toNat + more + 1 + (l + 1074).toNat) = ((kp - 1) * 2 ^ (l + 1074).toNat * d.natAbs) * (2 ^ U1 * 2 ^ ((l - pl).toNat + more + 1)) := by
        calc (kp - 1) * (2 ^ (l - pl).toNat * n) * 2 ^ ((j + 1074).toNat + more + 1 + (l + 1074).toNat)
            = (kp - 1) * (2 ^ (l - pl).toNat * n) * (2 ^ (j + 1074).toNat * 2 ^ (more + 1) * 2 ^ (l + 1074).toNat) := by rw [← Nat.pow_add, ← Nat.pow_add]; rfl
          _ = (kp - 1) * 2 ^ (l + 1074).toNat * (n * 2 ^ (j + 1074).toNat) * (2 ^ (l - pl).toNat * 2 ^ (more + 1)) := by ac_rfl
          _ = _ := by
            rw [hnb, ← Nat.pow_add, Nat.add_assoc]
            generalize 2 ^ U1 = u
            generalize 2 ^ ((l - pl).toNat + (more + 1)) = u2
            ac_rfl
      have h10 : 2 * dv * 2 ^ ((j + 1074).toNat + more + 1 + (l + 1074).toNat) = (V x).natAbs * (2 ^ U1 * 2 ^ ((l - pl).toNat + more + 1)) := by
        rw [← hdv, ← hmv, ← e4]
        rw [Nat.pow_add _ _ U1, Nat.pow_add _ (l - pl).toNat, Nat.pow_add _ ((l - pl).toNat + more) 1, Nat.pow_add _ (l - pl).toNat more, Nat.pow_one]
        generalize 2 ^ U1 = u
        generalize (V x).natAbs = vx at *
        ac_rfl
      rw [h9, h10] at h8
      exact Nat.le_of_mul_le_mul_right h8 (Nat.mul_pos (Nat.two_pow_pos _) (Nat.two_pow_pos _))
    have hb : kp * 2 ^ (l + 1074).toNat ≤ 2 ^ (k + 1) := by
      have h8 : (kp - 1) * 2 ^ (l + 1074).toNat ≤ (V x).natAbs := Nat.le_trans (Nat.le_mul_of_pos_right _ (by omega)) hX
      have h9 : (V x).natAbs ≤ 2 ^ k := by omega
      have h10 : 0 < (V x).natAbs := by omega
      rcases hk2' with h | h
      · have : (l + 1074).toNat = 0 := by omega
        rw [this, Nat.pow_zero, Nat.mul_one] at h8 ⊢
        rw [Nat.pow_succ]; omega
      · generalize 2 ^ (l + 1074).toNat = g at *
        obtain ⟨c, rfl⟩ : ∃ c, kp = c + 1 := ⟨kp - 1, by omega⟩
        rw [Nat.add_sub_cancel] at h8
        have : g ≤ c * g := Nat.le_mul_of_pos_left _ (by omega)
        rw [Nat.add_mul, Nat.one_mul, Nat.pow_succ]; omega
    rw [hs] at h11 h12
    rw [hs]
    refine ⟨h11, fun hd0 => ?_, fun hd0 => ?_, ?_⟩
    · rw [h12, ht, decide_eq_false (by omega)]
      exact Int.natCast_nonneg _
    · rw [h12, ht, decide_eq_true hd0]
      exact Int.neg_nonpos_of_nonneg (Int.natCast_nonneg _)
    · rw [h12]
      split
      · rw [Int.natAbs_neg, Int.natAbs_natCast]; exact hb
      · rw [Int.natAbs_natCast]; exact hb

/-- The quotient of two whole numbers is not little. -/
theorem QV_large {v a b : Int} (h : QV v a b) (ha : a ≠ 0) (hb : b.natAbs ≤ 2 ^ 24) : 2 ^ (U1 - 25) ≤ v.natAbs ∧ (v < 0 ↔ (decide (a < 0) ^^ decide (b < 0)) = true) := by
  rcases h with ⟨h, _⟩ | ⟨_, k, E, hd, hv⟩
  · exact absurd h ha
  · have hpos : 0 < k * 2 ^ E := Nat.mul_pos (by have := hd.lo; omega) (Nat.two_pow_pos _)
    have hlow : 2 ^ (U1 - 25) ≤ k * 2 ^ E := by
      have h1 := hd.dn
      have h2 := hd.lo
      have hU : U1 = (U1 - 25) + 25 := by decide
      have h3 : 2 * k * (2 ^ E * b.natAbs) + 2 ^ E * b.natAbs ≤ 4 * (k * 2 ^ E * b.natAbs) := by
        have h4 : 2 * k * (2 ^ E * b.natAbs) = 2 * (k * 2 ^ E * b.natAbs) := by ac_rfl
        have h5 : 2 ^ E * b.natAbs ≤ k * (2 ^ E * b.natAbs) := Nat.le_mul_of_pos_left _ (by omega)
        rw [← Nat.mul_assoc] at h5
        omega
      have h7 : k * 2 ^ E * b.natAbs ≤ k * 2 ^ E * 2 ^ 24 := Nat.mul_le_mul_left _ hb
      have h8 : 2 ^ U1 ≤ a.natAbs * 2 ^ U1 := Nat.le_mul_of_pos_left _ (by omega)
      rw [hU, Nat.pow_add] at h8
      rw [hU] at h1
      rw [Nat.pow_add] at h1
      generalize 2 ^ (U1 - 25) = u at *
      omega
    refine ⟨?_, ?_⟩
    · rw [hv]
      split
      · rw [Int.natAbs_neg, Int.natAbs_natCast]; exact hlow
      · rw [Int.natAbs_natCast]; exact hlow
    · rw [hv]
      split
      · rename_i h; simp only [h, iff_true]; omega
      · rename_i h; simp only [h]; constructor
        · intro h'; omega
        · intro h'; cases h'

end Go.Fl
