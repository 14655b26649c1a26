/- How two quotients of whole numbers stand to each other. -/
import Derived.Test.YtcjhgngdhdcpeaaFl3
namespace Go.Fl
open Ieee

section
variable {k E A B u l F C D : Nat}

theorem DivSpec.pos (h : DivSpec k E A B u) : 0 < k := by have := h.lo; omega

theorem quot_lt (h1 : DivSpec k E A B u) (h2 : DivSpec l F C D u) (_hB : 0 < B) (_hD : 0 < D) (hu : 0 < u) (hlt : A * D < C * B) (hs : A * D ≤ 2 ^ 50) : k * 2 ^ E < l * 2 ^ F := by
  -- 2 ^ 53 N B <= (2 ^ 53 + 1) A u
  have e1 : 2 ^ 53 * (k * 2 ^ E * B) ≤ (2 ^ 53 + 1) * (A * u) := by
    have a1 := h1.up
    have a2 := h1.bl
    have a3 : 2 * k * (2 ^ E * B) = 2 * (k * 2 ^ E * B) := by ac_rfl
    rw [a3] at a1
    generalize 2 ^ E * B = P at *
    generalize k * 2 ^ E * B = N at *
    omega
  have e2 : 2 ^ 53 * (C * u) ≤ 2 ^ 53 * (l * 2 ^ F * D) + C * u := by
    have a1 := h2.dn
    have a2 := h2.bl
    have a3 : 2 * l * (2 ^ F * D) = 2 * (l * 2 ^ F * D) := by ac_rfl
    rw [a3] at a1
    generalize 2 ^ F * D = P at *
    generalize l * 2 ^ F * D = N at *
    omega
  have f1 : 2 ^ 53 * (k * 2 ^ E) * (B * D) ≤ (2 ^ 53 + 1) * (A * D) * u := by
    calc 2 ^ 53 * (k * 2 ^ E) * (B * D) = 2 ^ 53 * (k * 2 ^ E * B) * D := by ac_rfl
      _ ≤ (2 ^ 53 + 1) * (A * u) * D := Nat.mul_le_mul_right _ e1
      _ = _ := by ac_rfl
  have f2 : 2 ^ 53 * (C * B) * u ≤ 2 ^ 53 * (l * 2 ^ F) * (B * D) + (C * B) * u := by
    calc 2 ^ 53 * (C * B) * u = 2 ^ 53 * (C * u) * B := by ac_rfl
      _ ≤ (2 ^ 53 * (l * 2 ^ F * D) + C * u) * B := Nat.mul_le_mul_right _ e2
      _ = _ := by rw [Nat.add_mul]; congr 1 <;> ac_rfl
  have f3 : (2 ^ 53 + 1) * (A * D) * u + (C * B) * u < 2 ^ 53 * (C * B) * u := by
    rw [← Nat.add_mul]
    apply Nat.mul_lt_mul_of_pos_right _ hu
    generalize A * D = X at *
    generalize C * B = Y at *
    omega
  have f4 : 2 ^ 53 * (k * 2 ^ E) * (B * D) < 2 ^ 53 * (l * 2 ^ F) * (B * D) := by omega
  have f5 := Nat.lt_of_mul_lt_mul_right f4
  exact Nat.lt_of_mul_lt_mul_left f5

theorem quot_eq (h1 : DivSpec k E A B u) (h2 : DivSpec l F C D u) (hB : 0 < B) (hD : 0 < D) (heq : A * D = C * B) : k * 2 ^ E = l * 2 ^ F := by
  have hX : A * u * D = C * u * B := by
    calc A * u * D = A * D * u := by ac_rfl
      _ = C * B * u := by rw [heq]
      _ = _ := by ac_rfl
  have b1 : 2 ^ 52 * (2 ^ E * (B * D)) ≤ A * u * D := by
    calc _ = 2 ^ 52 * (2 ^ E * B) * D := by ac_rfl
      _ ≤ _ := Nat.mul_le_mul_right _ h1.bl
  have b2 : A * u * D < 2 ^ 53 * (2 ^ E * (B * D)) := by
    calc _ < 2 ^ 53 * (2 ^ E * B) * D := Nat.mul_lt_mul_of_pos_right h1.bh hD
      _ = _ := by ac_rfl
  have b3 : 2 ^ 52 * (2 ^ F * (B * D)) ≤ A * u * D := by
    rw [hX]
    calc _ = 2 ^ 52 * (2 ^ F * D) * B := by ac_rfl
      _ ≤ _ := Nat.mul_le_mul_right _ h2.bl
  have b4 : A * u * D < 2 ^ 53 * (2 ^ F * (B * D)) := by
    rw [hX]
    calc _ < 2 ^ 53 * (2 ^ F * D) * B := Nat.mul_lt_mul_of_pos_right h2.bh hB
      _ = _ := by ac_rfl
  have hlt : ∀ {E F : Nat}, 2 ^ 52 * (2 ^ F * (B * D)) ≤ A * u * D → A * u * D < 2 ^ 53 * (2 ^ E * (B * D)) → ¬ E < F := by
    intro E F c1 c2 hEF
    have c3 : 2 ^ (E + 1) ≤ 2 ^ F := Nat.pow_le_pow_right (by decide) hEF
    have c4 : 2 ^ (E + 1) * (B * D) ≤ 2 ^ F * (B * D) := Nat.mul_le_mul_right _ c3
    have c5 : 2 ^ (E + 1) * (B * D) = 2 * (2 ^ E * (B * D)) := by rw [Nat.pow_succ]; ac_rfl
    rw [c5] at c4
    generalize 2 ^ E * (B * D) = x at *
    generalize 2 ^ F * (B * D) = y at *
    omega
  have hEF : E = F := Nat.le_antisymm (Nat.not_lt.1 (hlt (E := F) (F := E) b1 b4)) (Nat.not_lt.1 (hlt (E := E) (F := F) b3 b2))
  subst hEF
  have u1 : 2 * k * (2 ^ E * (B * D)) ≤ 2 * (A * u * D) + 2 ^ E * (B * D) := by
    calc _ = 2 * k * (2 ^ E * B) * D := by ac_rfl
      _ ≤ (2 * (A * u) + 2 ^ E * B) * D := Nat.mul_le_mul_right _ h1.up
      _ = _ := by rw [Nat.add_mul]; congr 1 <;> ac_rfl
  have u2 : 2 * (A * u * D) ≤ 2 * k * (2 ^ E * (B * D)) + 2 ^ E * (B * D) := by
    calc _ = 2 * (A * u) * D := by ac_rfl
      _ ≤ (2 * k * (2 ^ E * B) + 2 ^ E * B) * D := Nat.mul_le_mul_right _ h1.dn
      _ = _ := by rw [Nat.add_mul]; congr 1 <;> ac_rfl
  have u3 : 2 * l * (2 ^ E * (B * D)) ≤ 2 * (A * u * D) + 2 ^ E * (B * D) := by
    rw [hX]
    calc _ = 2 * l * (2 ^ E * D) * B := by ac_rfl
      _ ≤ (2 * (C * u) + 2 ^ E * D) * B := Nat.mul_le_mul_right _ h2.up
      _ = _ := by rw [Nat.add_mul]; congr 1 <;> ac_rfl
  have u4 : 2 * (A * u * D) ≤ 2 * l * (2 ^ E * (B * D)) + 2 ^ E * (B * D) := by
    rw [hX]
    calc _ = 2 * (C * u) * B := by ac_rfl
      _ ≤ (2 * l * (2 ^ E * D) + 2 ^ E * D) * B := Nat.mul_le_mul_right _ h2.dn
      _ = _ := by rw [Nat.add_mul]; congr 1 <;> ac_rfl
  have hP : 0 < 2 ^ E * (B * D) := Nat.mul_pos (Nat.two_pow_pos _) (Nat.mul_pos hB hD)
  have t1 : (2 * (A * u * D) = 2 * k * (2 ^ E * (B * D)) + 2 ^ E * (B * D) ∨ 2 * (A * u * D) + 2 ^ E * (B * D) = 2 * k * (2 ^ E * (B * D))) → k % 2 = 0 := by
    rintro (h | h)
    · refine h1.tie (.inl (Nat.eq_of_mul_eq_mul_right hD ?_))
      calc 2 * (A * u) * D = 2 * (A * u * D) := by ac_rfl
        _ = _ := h
        _ = _ := by rw [Nat.add_mul]; congr 1 <;> ac_rfl
    · refine h1.tie (.inr (Nat.eq_of_mul_eq_mul_right hD ?_))
      calc (2 * (A * u) + 2 ^ E * B) * D = 2 * (A * u * D) + 2 ^ E * (B * D) := by rw [Nat.add_mul]; congr 1 <;> ac_rfl
        _ = _ := h
        _ = _ := by ac_rfl
  have t2 : (2 * (A * u * D) = 2 * l * (2 ^ E * (B * D)) + 2 ^ E * (B * D) ∨ 2 * (A * u * D) + 2 ^ E * (B * D) = 2 * l * (2 ^ E * (B * D))) → l % 2 = 0 := by
    rw [hX]
    rintro (h | h)
    · refine h2.tie (.inl (Nat.eq_of_mul_eq_mul_right hB ?_))
      calc 2 * (C * u) * B = 2 * (C * u * B) := by ac_rfl
        _ = _ := h
        _ = _ := by rw [Nat.add_mul]; congr 1 <;> ac_rfl
    · refine h2.tie (.inr (Nat.eq_of_mul_eq_mul_right hB ?_))
      calc (2 * (C * u) + 2 ^ E * D) * B = 2 * (C * u * B) + 2 ^ E * (B * D) := by rw [Nat.add_mul]; congr 1 <;> ac_rfl
        _ = _ := h
        _ = _ := by ac_rfl
  clear b1 b2 b3 b4 hlt hX h1 h2
  generalize 2 ^ E * (B * D) = p at *
  generalize A * u * D = X at *
  congr 1
  have step : ∀ k l : Nat, 2 * k * p ≤ 2 * X + p → 2 * X ≤ 2 * k * p + p → 2 * l * p ≤ 2 * X + p → ((2 * X = 2 * k * p + p ∨ 2 * X + p = 2 * k * p) → k % 2 = 0) → ((2 * X = 2 * l * p + p ∨ 2 * X + p = 2 * l * p) → l % 2 = 0) → ¬ k < l := by
    intro k l v1 v2 v3 w1 w2 hkl
    obtain ⟨d, rfl⟩ : ∃ d, l = k + 1 + d := ⟨l - (k + 1), by omega⟩
    have x1 : 2 * (k + 1 + d) * p = 2 * k * p + 2 * p + 2 * (d * p) := by rw [Nat.mul_add, Nat.mul_add, Nat.add_mul, Nat.add_mul, Nat.mul_assoc 2 d p]
    rw [x1] at v3 w2
    have hd : d * p = 0 := by omega
    have hd0 : d = 0 := by
      rcases Nat.mul_eq_zero.1 hd with h | h
      · exact h
      · omega
    subst hd0
    have y1 := w1 (by left; omega)
    have y2 := w2 (by right; omega)
    omega
  exact Nat.le_antisymm (Nat.not_lt.1 (step l k u3 u4 u1 t2 t1)) (Nat.not_lt.1 (step k l u1 u2 u3 t1 t2))

end

/-! ### With signs -/
/-- v is what the quotient of a and b is rounded to. -/
def QV (v : Int) (a b : Int) : Prop :=
  (a = 0 ∧ v = 0) ∨ (a ≠ 0 ∧ ∃ k E, DivSpec k E a.natAbs b.natAbs (2 ^ U1) ∧ v = if (decide (a < 0) ^^ decide (b < 0)) then -((k * 2 ^ E : Nat) : Int) else ((k * 2 ^ E : Nat) : Int))

theorem div_QV {x y : Nat} {a b : Int} (hx : FI x a) (hy : FI y b) (hb : b ≠ 0) (hb2 : b.natAbs < 2 ^ 53) (ha2 : a.natAbs < 2 ^ 53) : ∃ r, double.div x y = some r ∧ Fin r ∧ QV (V r) a b := by
  by_cases ha : a = 0
  · subst ha
    obtain ⟨s, m, i, h1, h2, h3, _⟩ := read_fin hx.1
    obtain ⟨t, n, j, h4, h5, h6, _⟩ := read_fin hy.1
    rw [hx.2, Int.zero_mul] at h3
    rw [hy.2] at h6
    have hm0 : m = 0 := by
      have := congrArg Int.natAbs h3
      rw [signed_natAbs] at this
      rcases Nat.mul_eq_zero.1 this with h | h
      · exact h
      · exact absurd h (Nat.ne_of_gt (Nat.two_pow_pos _))
    have hn0 : n ≠ 0 := fun e => by
      have := congrArg Int.natAbs h6
      rw [signed_natAbs, e, Nat.zero_mul, Int.natAbs_mul, natAbs_pow2] at this
      rcases Nat.mul_eq_zero.1 this.symm with h | h
      · omega
      · exact absurd h (Nat.ne_of_gt (Nat.two_pow_pos _))
    subst hm0
    refine ⟨double.word (s ^^ t) 0, ?_, (word_zero _).1, .inl ⟨rfl, ?_⟩⟩
    · unfold Format.div
      rw [h1, h4]
      simp only [Datum.quotient, hn0, if_false, Option.map_some, Format.write, Nat.zero_shiftLeft, Nat.zero_div, Nat.zero_mod, bne_self_eq_false, Bool.toNat_false, Nat.mul_zero, Nat.add_zero]
      unfold Format.nearest
      simp
    · rw [(word_zero _).2, Int.zero_mul]
  · obtain ⟨r, h1, h2, k, E, h3, h4⟩ := FI_div hx hy ha hb hb2 ha2
    exact ⟨r, h1, h2, .inr ⟨ha, k, E, h3, h4⟩⟩

theorem mul_sign (a b : Int) : a * b = if (decide (a < 0) ^^ decide (b < 0)) then -((a.natAbs * b.natAbs : Nat) : Int) else ((a.natAbs * b.natAbs : Nat) : Int) := by
  rw [Int.natCast_mul]
  by_cases hA : a < 0 <;> by_cases hB : b < 0
  · have e1 : (a.natAbs : Int) = -a := by omega
    have e2 : (b.natAbs : Int) = -b := by omega
    simp only [hA, hB, decide_true, Bool.xor_self, Bool.false_eq_true, if_false, e1, e2, Int.neg_mul_neg]
  · have e1 : (a.natAbs : Int) = -a := by omega
    have e2 : (b.natAbs : Int) = b := by omega
    simp only [hA, hB, decide_true, decide_false, Bool.xor_false, if_true, e1, e2, Int.neg_mul, Int.neg_neg]
  · have e1 : (a.natAbs : Int) = a := by omega
    have e2 : (b.natAbs : Int) = -b := by omega
    simp only [hA, hB, decide_true, decide_false, Bool.false_xor, if_true, e1, e2, Int.mul_neg, Int.neg_neg]
  · have e1 : (a.natAbs : Int) = a := by omega
    have e2 : (b.natAbs : Int) = b := by omega
    simp only [hA, hB, decide_false, Bool.xor_self, Bool.false_eq_true, if_false, e1, e2]

theorem QV_lt {v w a b c d : Int} (h1 : QV v a b) (h2 : QV w c d) (hb : b ≠ 0) (hd : d ≠ 0) (hs1 : a.natAbs * d.natAbs ≤ 2 ^ 50) (hs2 : c.natAbs * b.natAbs ≤ 2 ^ 50) (h : a * b * (d * d) < c * d * (b * b)) : v < w := by
  have hu : 0 < 2 ^ U1 := Nat.two_pow_pos _
  have hB : 0 < b.natAbs := by omega
  have hD : 0 < d.natAbs := by omega
  have sq : ∀ x : Int, x * x = ((x.natAbs * x.natAbs : Nat) : Int) := fun x => by rw [mul_sign x x]; simp
  rw [sq b, sq d, mul_sign a b, mul_sign c d] at h
  have key : ∀ A B C D : Nat, A * B * (D * D) < C * D * (B * B) → A * D < C * B := by
    intro A B C D hh
    have : A * D * (B * D) < C * B * (B * D) := by
      calc A * D * (B * D) = A * B * (D * D) := by ac_rfl
        _ < _ := hh
        _ = _ := by ac_rfl
    exact Nat.lt_of_mul_lt_mul_right this
  rcases h1 with ⟨rfl, rfl⟩ | ⟨ha, k, E, hk, hv⟩ <;> rcases h2 with ⟨rfl, rfl⟩ | ⟨hc, l, F, hl, hw⟩
  · simp at h
  · rw [hw]
    have hp : 0 < l * 2 ^ F := Nat.mul_pos hl.pos (Nat.two_pow_pos _)
    split
    · rename_i hs
      exfalso
      simp only [hs, if_true, Int.natAbs_zero, Nat.zero_mul] at h
      generalize c.natAbs * d.natAbs = x at h
      generalize b.natAbs * b.natAbs = y at h
      have : (0 : Int) ≤ (x : Int) * (y : Int) := Int.mul_nonneg (Int.natCast_nonneg _) (Int.natCast_nonneg _)
      simp [Int.neg_mul] at h
      omega
    · omega
  · rw [hv]
    have hp : 0 < k * 2 ^ E := Nat.mul_pos hk.pos (Nat.two_pow_pos _)
    split
    · omega
    · rename_i hs
      exfalso
      simp only [hs, Bool.false_eq_true, if_false, Int.natAbs_zero, Nat.zero_mul] at h
      generalize a.natAbs * b.natAbs = x at h
      generalize d.natAbs * d.natAbs = y at h
      have : (0 : Int) ≤ (x : Int) * (y : Int) := Int.mul_nonneg (Int.natCast_nonneg _) (Int.natCast_nonneg _)
      simp at h
      omega
  · rw [hv, hw]
    have hp1 : 0 < k * 2 ^ E := Nat.mul_pos hk.pos (Nat.two_pow_pos _)
    have hp2 : 0 < l * 2 ^ F := Nat.mul_pos hl.pos (Nat.two_pow_pos _)
    by_cases s1 : (decide (a < 0) ^^ decide (b < 0)) = true <;> by_cases s2 : (decide (c < 0) ^^ decide (d < 0)) = true
    · simp only [s1, s2, if_true] at h ⊢
      have h' : c.natAbs * d.natAbs * (b.natAbs * b.natAbs) < a.natAbs * b.natAbs * (d.natAbs * d.natAbs) := by
        rw [Int.neg_mul, Int.neg_mul, ← Int.natCast_mul, ← Int.natCast_mul] at h
        omega
      have := quot_lt hl hk hD hB hu (key _ _ _ _ h') hs2
      omega
    · simp only [s1, s2, if_true, Bool.false_eq_true, if_false]
      omega
    · exfalso
      simp only [s1, s2, if_true, Bool.false_eq_true, if_false] at h
      rw [Int.neg_mul, ← Int.natCast_mul, ← Int.natCast_mul] at h
      omega
    · simp only [s1, s2, Bool.false_eq_true, if_false] at h ⊢
      have h' : a.natAbs * b.natAbs * (d.natAbs * d.natAbs) < c.natAbs * d.natAbs * (b.natAbs * b.natAbs) := by
        rw [← Int.natCast_mul, ← Int.natCast_mul] at h
        omega
      have := quot_lt hk hl hB hD hu (key _ _ _ _ h') hs1
      omega

theorem QV_eq {v w a b c d : Int} (h1 : QV v a b) (h2 : QV w c d) (hb : b ≠ 0) (hd : d ≠ 0) (h : a * d = c * b) : v = w := by
  have hB : 0 < b.natAbs := by omega
  have hD : 0 < d.natAbs := by omega
  have hA : a.natAbs * d.natAbs = c.natAbs * b.natAbs := by rw [← Int.natAbs_mul, ← Int.natAbs_mul, h]
  rcases h1 with ⟨rfl, rfl⟩ | ⟨ha, k, E, hk, hv⟩ <;> rcases h2 with ⟨rfl, rfl⟩ | ⟨hc, l, F, hl, hw⟩
  · rfl
  · rw [Int.zero_mul] at h
    rcases Int.mul_eq_zero.1 h.symm with e | e
    · exact absurd e hc
    · exact absurd e hb
  · rw [Int.zero_mul] at h
    rcases Int.mul_eq_zero.1 h with e | e
    · exact absurd e ha
    · exact absurd e hd
  · rw [hv, hw, quot_eq hk hl hB hD hA]
    have hs : (decide (a < 0) ^^ decide (b < 0)) = (decide (c < 0) ^^ decide (d < 0)) := by
      have e1 := mul_sign a d
      have e2 := mul_sign c b
      have p1 : 0 < a.natAbs * d.natAbs := Nat.mul_pos (by omega) hD
      have p2 : 0 < c.natAbs * b.natAbs := Nat.mul_pos (by omega) hB
      rw [h, e2] at e1
      have hx : (decide (a < 0) ^^ decide (d < 0)) = (decide (c < 0) ^^ decide (b < 0)) := by
        cases x1 : (decide (a < 0) ^^ decide (d < 0)) <;> cases x2 : (decide (c < 0) ^^ decide (b < 0))
        · rfl
        · simp only [x1, x2, if_true, Bool.false_eq_true, if_false] at e1; omega
        · simp only [x1, x2, if_true, Bool.false_eq_true, if_false] at e1; omega
        · rfl
      generalize decide (a < 0) = p at *
      generalize decide (b < 0) = q at *
      generalize decide (c < 0) = r at *
      generalize decide (d < 0) = t at *
      cases p <;> cases q <;> cases r <;> cases t <;> simp_all
    rw [hs]

end Go.Fl
