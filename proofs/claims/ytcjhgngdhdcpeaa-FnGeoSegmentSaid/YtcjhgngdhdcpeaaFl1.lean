/- Plain facts on float64: what a word stands for, as a whole number of least units; order; rounding. -/
import Derived.Laws.FloatArith
namespace Go.Fl
open Ieee

theorem lp : double.leastPlace = -1074 := by decide
theorem bnd : double.binade = 2 ^ 52 := by decide
theorem infr : double.infRung = 2047 * 2 ^ 52 := by decide
theorem sgw : double.signWeight = 2 ^ 63 := by decide
theorem frb : double.fractionBits = 52 := rfl

/-- A finite word. -/
def Fin (x : Nat) : Prop := x < 2 ^ 64 ∧ x % 2 ^ 63 < 2047 * 2 ^ 52

/-- The magnitude of a rung, in least units. -/
def rmag (r : Nat) : Nat := if r < 2 ^ 52 then r else (2 ^ 52 + r % 2 ^ 52) * 2 ^ (r / 2 ^ 52 - 1)

/-- What a finite word stands for, in least units (2 ^ -1074). -/
def V (x : Nat) : Int := if x / 2 ^ 63 % 2 = 1 then -(rmag (x % 2 ^ 63) : Int) else (rmag (x % 2 ^ 63) : Int)

theorem signed_add (s : Bool) (m u v : Nat) : signed s m (u + v) = signed s m u * 2 ^ v := by
  unfold signed
  have : ((m <<< (u + v) : Nat) : Int) = (m <<< u : Nat) * 2 ^ v := by
    rw [Nat.shiftLeft_eq, Nat.shiftLeft_eq, Nat.pow_add]; push_cast; rw [Int.mul_assoc]
  split
  · rw [this, Int.neg_mul]
  · exact this

theorem signed_mag (s : Bool) (m u : Nat) : signed s m u = if s then -((m * 2 ^ u : Nat) : Int) else ((m * 2 ^ u : Nat) : Int) := by
  unfold signed; rw [Nat.shiftLeft_eq]

theorem read_fin {x : Nat} (h : Fin x) : ∃ s m i, double.read x = .number s m i ∧ -1074 ≤ i ∧ signed s m (i + 1074).toNat = V x ∧ m < 2 ^ 53 := by
  obtain ⟨h1, h2⟩ := h
  unfold Format.read
  simp only [sgw, bnd, infr, lp]
  by_cases hs : x % 2 ^ 63 < 2 ^ 52
  · refine ⟨x / 2 ^ 63 % 2 == 1, x % 2 ^ 63, -1074, by simp [hs], by omega, ?_, by omega⟩
    rw [signed_mag, V, rmag, if_pos hs]
    simp
  · refine ⟨x / 2 ^ 63 % 2 == 1, 2 ^ 52 + x % 2 ^ 63 % 2 ^ 52, -1074 + (x % 2 ^ 63 / 2 ^ 52 - 1 : Nat), by simp [hs, h2], by omega, ?_, by omega⟩
    rw [signed_mag, V, rmag, if_neg hs]
    have : (-1074 + ((x % 2 ^ 63 / 2 ^ 52 - 1 : Nat) : Int) + 1074).toNat = x % 2 ^ 63 / 2 ^ 52 - 1 := by omega
    rw [this]
    simp

theorem cmp_int (a b : Int) : compare a b = if a < b then .lt else if a = b then .eq else .gt := rfl

theorem pow_pos' (k : Nat) : (0 : Int) < 2 ^ k := Int.pow_pos (by decide)

theorem mul_lt_iff {a b k : Int} (hk : 0 < k) : a * k < b * k ↔ a < b :=
  ⟨fun h => Int.lt_of_mul_lt_mul_right h (Int.le_of_lt hk), fun h => Int.mul_lt_mul_of_pos_right h hk⟩

theorem compare_scale (a b : Int) (k : Nat) : compare (a * 2 ^ k) (b * 2 ^ k) = compare a b := by
  have hp := pow_pos' k
  rw [cmp_int, cmp_int]
  have h1 : (a * 2 ^ k < b * 2 ^ k) = (a < b) := propext (mul_lt_iff hp)
  have h2 : (a * 2 ^ k = b * 2 ^ k) = (a = b) := propext ⟨fun h => Int.eq_of_mul_eq_mul_right (by omega) h, fun h => by rw [h]⟩
  simp only [h1, h2]

/-- The order of finite words is that of what they stand for. -/
theorem order_fin {x y : Nat} (hx : Fin x) (hy : Fin y) : double.order x y = some (compare (V x) (V y)) := by
  obtain ⟨s, m, i, h1, h2, h3, _⟩ := read_fin hx
  obtain ⟨t, n, j, h4, h5, h6, _⟩ := read_fin hy
  unfold Format.order
  rw [h1, h4]
  simp only [Datum.order]
  congr 1
  rw [← h3, ← h6]
  have e1 : (i + 1074).toNat = (i - min i j).toNat + (min i j + 1074).toNat := by omega
  have e2 : (j + 1074).toNat = (j - min i j).toNat + (min i j + 1074).toNat := by omega
  rw [e1, e2, signed_add, signed_add, compare_scale]

/-! ### Rounding -/
/-- Half a unit is the most by which a cut is off. -/
theorem cut_err (neg : Bool) (n drop : Nat) : 2 * (Toward.even.cut neg n drop * 2 ^ drop) ≤ 2 * n + 2 ^ drop ∧ 2 * n ≤ 2 * (Toward.even.cut neg n drop * 2 ^ drop) + 2 ^ drop := by
  unfold Toward.cut
  simp only [Nat.shiftLeft_eq, Nat.one_mul]
  by_cases hd : drop ≤ n.log2 + 2
  · rw [Nat.min_eq_left hd]
    have hg : 0 < 2 ^ drop := Nat.two_pow_pos _
    have hdm := Nat.div_add_mod n (2 ^ drop)
    have hlt := Nat.mod_lt n hg
    generalize 2 ^ drop = g at *
    have hm : g * (n / g) = n / g * g := Nat.mul_comm _ _
    rw [hm] at hdm
    generalize n / g = q at *
    generalize n % g = r at *
    by_cases h1 : g < 2 * r
    · simp only [h1, decide_true, Bool.true_or, Bool.toNat_true, Nat.add_mul, Nat.one_mul]; omega
    · by_cases h2 : g = 2 * r
      · by_cases h3 : q % 2 = 1
        · have e1 : (decide (g < 2 * r)) = false := by simp [h1]
          have e2 : (g == 2 * r) = true := by simp [h2]
          have e3 : (q % 2 == 1) = true := by simp [h3]
          simp only [e1, e2, e3, Bool.false_or, Bool.true_and, Bool.toNat_true, Nat.add_mul, Nat.one_mul]; omega
        · have h3' : (q % 2 == 1) = false := by simp [h3]
          simp only [h1, h3', decide_false, Bool.and_false, Bool.or_false, Bool.toNat_false, Nat.add_zero]; omega
      · have h2' : (g == 2 * r) = false := by simp [h2]
        simp only [h1, h2', decide_false, Bool.false_and, Bool.or_false, Bool.toNat_false, Nat.add_zero]; omega
  · have hd' : n.log2 + 2 < drop := by omega
    rw [Nat.min_eq_right (by omega)]
    have h1 : n < 2 ^ (n.log2 + 1) := Nat.lt_log2_self
    have h2 : 2 ^ (n.log2 + 2) = 2 * 2 ^ (n.log2 + 1) := by rw [Nat.pow_succ]; omega
    have h3 : 2 ^ (n.log2 + 2) ≤ 2 ^ drop := Nat.pow_le_pow_right (by decide) (by omega)
    have h4 : n / 2 ^ (n.log2 + 2) = 0 := Nat.div_eq_of_lt (by omega)
    have h5 : n % 2 ^ (n.log2 + 2) = n := Nat.mod_eq_of_lt (by omega)
    rw [h4, h5]
    have h6 : ¬ 2 ^ (n.log2 + 2) < 2 * n := by omega
    have h7 : (2 ^ (n.log2 + 2) == 2 * n) = false := by simp; omega
    simp only [h6, h7, decide_false, Bool.false_and, Bool.or_false, Bool.toNat_false, Nat.add_zero, Nat.zero_mul]
    omega

/-- A cut of a multiple is exact. -/
theorem cut_exact (neg : Bool) (k drop : Nat) : Toward.even.cut neg (k * 2 ^ drop) drop = k := by
  obtain ⟨h1, h2⟩ := cut_err neg (k * 2 ^ drop) drop
  have hg : 0 < 2 ^ drop := Nat.two_pow_pos _
  generalize Toward.even.cut neg (k * 2 ^ drop) drop = c at *
  generalize 2 ^ drop = g at *
  rcases Nat.lt_trichotomy c k with h | h | h
  · exfalso
    have : c * g + g ≤ k * g := by
      calc c * g + g = (c + 1) * g := by rw [Nat.add_mul, Nat.one_mul]
        _ ≤ k * g := Nat.mul_le_mul_right _ h
    omega
  · exact h
  · exfalso
    have : k * g + g ≤ c * g := by
      calc k * g + g = (k + 1) * g := by rw [Nat.add_mul, Nat.one_mul]
        _ ≤ c * g := Nat.mul_le_mul_right _ h
    omega

theorem rmag_small {r : Nat} (h : r < 2 ^ 52) : rmag r = r := by simp [rmag, h]
theorem rmag_at (E f : Nat) (hf : f < 2 ^ 52) : rmag ((E + 1) * 2 ^ 52 + f) = (2 ^ 52 + f) * 2 ^ E := by
  have h1 : ¬ (E + 1) * 2 ^ 52 + f < 2 ^ 52 := by omega
  have h2 : ((E + 1) * 2 ^ 52 + f) / 2 ^ 52 = E + 1 := by omega
  have h3 : ((E + 1) * 2 ^ 52 + f) % 2 ^ 52 = f := by omega
  rw [rmag, if_neg h1, h2, h3]; rfl

/-- A rung made of a place and of what is kept. -/
theorem rmag_kept (E kept : Nat) (h1 : kept ≤ 2 ^ 53) (h2 : E = 0 ∨ 2 ^ 52 ≤ kept) : rmag (E * 2 ^ 52 + kept) = kept * 2 ^ E := by
  rcases Nat.lt_or_ge kept (2 ^ 52) with h | h
  · have : E = 0 := by omega
    subst this
    simp [rmag_small (r := kept) h]
  · rcases Nat.lt_or_ge kept (2 ^ 53) with h3 | h3
    · have := rmag_at E (kept - 2 ^ 52) (by omega)
      rw [show E * 2 ^ 52 + kept = (E + 1) * 2 ^ 52 + (kept - 2 ^ 52) by omega, this, Nat.add_sub_of_le h]
    · have hk : kept = 2 ^ 53 := Nat.le_antisymm h1 h3
      subst hk
      have h4 := rmag_at (E + 1) 0 (by decide)
      have h5 : E * 2 ^ 52 + 2 ^ 53 = (E + 1 + 1) * 2 ^ 52 + 0 := by omega
      rw [h5, h4, Nat.pow_succ 2 E]
      have h6 : (2 : Nat) ^ 53 = (2 ^ 52 + 0) * 2 := by decide
      rw [h6, Nat.mul_comm (2 ^ E) 2, ← Nat.mul_assoc]

theorem word_V (s : Bool) (r : Nat) (hr : r < 2047 * 2 ^ 52) : Fin (double.word s r) ∧ V (double.word s r) = if s then -(rmag r : Int) else (rmag r : Int) := by
  unfold Format.word V Fin
  rw [sgw]
  cases s
  · have h1 : r / 2 ^ 63 % 2 = 0 := by omega
    have h2 : r % 2 ^ 63 = r := by omega
    simp only [Bool.false_eq_true, if_false, h1, h2]
    refine ⟨⟨by omega, hr⟩, by simp⟩
  · have h1 : (2 ^ 63 + r) / 2 ^ 63 % 2 = 1 := by omega
    have h2 : (2 ^ 63 + r) % 2 ^ 63 = r := by omega
    simp only [if_true, h1, h2]
    exact ⟨⟨by omega, hr⟩, trivial⟩

/-- The place of the last digit that is kept. -/
def last (mag : Nat) (place : Int) : Int := max (place + mag.log2 - 52) (-1074)
def keptOf (neg : Bool) (mag : Nat) (place : Int) : Nat := Toward.even.cut neg (mag <<< (place - last mag place).toNat) (last mag place - place).toNat

theorem kept_bounds (neg : Bool) {mag : Nat} (hm : mag ≠ 0) (place : Int) : keptOf neg mag place ≤ 2 ^ 53 ∧ (last mag place = -1074 ∨ 2 ^ 52 ≤ keptOf neg mag place) := by
  have hl1 := Nat.log2_self_le hm
  have hl2 : mag < 2 ^ (mag.log2 + 1) := Nat.lt_log2_self
  obtain ⟨e1, e2⟩ := cut_err neg (mag <<< (place - last mag place).toNat) (last mag place - place).toNat
  unfold keptOf
  generalize Toward.even.cut neg (mag <<< (place - last mag place).toNat) (last mag place - place).toNat = k at *
  rw [Nat.shiftLeft_eq] at e1 e2
  generalize hL : mag.log2 = L at *
  by_cases hs : last mag place ≤ place
  · -- nothing is dropped
    have h0 : (last mag place - place).toNat = 0 := by omega
    rw [h0] at e1 e2
    simp only [Nat.pow_zero, Nat.mul_one] at e1 e2
    have hk : k = mag * 2 ^ (place - last mag place).toNat := by omega
    generalize hu : (place - last mag place).toNat = u at *
    have hle : L + u ≤ 52 := by unfold last at hu hs; rw [hL] at hu hs; omega
    constructor
    · have : mag * 2 ^ u < 2 ^ (L + 1) * 2 ^ u := Nat.mul_lt_mul_of_pos_right hl2 (Nat.two_pow_pos _)
      rw [← Nat.pow_add] at this
      have h3 : 2 ^ (L + 1 + u) ≤ 2 ^ 53 := Nat.pow_le_pow_right (by decide) (by omega)
      omega
    · by_cases hlast : last mag place = -1074
      · exact .inl hlast
      · right
        have hu2 : L + u = 52 := by unfold last at hu hlast; rw [hL] at hu hlast; omega
        have : 2 ^ L * 2 ^ u ≤ mag * 2 ^ u := Nat.mul_le_mul_right _ hl1
        rw [← Nat.pow_add, hu2] at this
        omega
  · have h0 : (place - last mag place).toNat = 0 := by omega
    rw [h0] at e1 e2
    simp only [Nat.pow_zero, Nat.mul_one] at e1 e2
    generalize hu : (last mag place - place).toNat = u at *
    have hge : L ≤ 52 + u := by unfold last at hu; rw [hL] at hu; omega
    have hup : 2 ^ (L + 1) ≤ 2 ^ (53 + u) := Nat.pow_le_pow_right (by decide) (by omega)
    have hg : 0 < 2 ^ u := Nat.two_pow_pos _
    constructor
    · rw [Nat.pow_add 2 53 u] at hup
      generalize 2 ^ u = g at *
      have h4 : 2 * (k * g) < 2 * (2 ^ 53 * g) + g + g := by omega
      have h5 : k * g < (2 ^ 53 + 1) * g := by rw [Nat.add_mul, Nat.one_mul]; omega
      have := Nat.lt_of_mul_lt_mul_right h5
      omega
    · by_cases hlast : last mag place = -1074
      · exact .inl hlast
      · right
        have hu2 : L = 52 + u := by unfold last at hu hlast hs; rw [hL] at hu hlast hs; omega
        rw [hu2, Nat.pow_add 2 52 u] at hl1
        clear hup hl2
        generalize 2 ^ u = g at *
        have h5 : 2 ^ 52 * g < (k + 1) * g := by rw [Nat.add_mul, Nat.one_mul]; omega
        have := Nat.lt_of_mul_lt_mul_right h5
        omega

/-- What the nearest word stands for. -/
theorem nearest_V (neg : Bool) {mag : Nat} (hm : mag ≠ 0) {place : Int} (hb : place + mag.log2 ≤ 1022) :
    Fin (double.nearest neg mag place) ∧ V (double.nearest neg mag place) = (if neg then -((keptOf neg mag place * 2 ^ (last mag place + 1074).toNat : Nat) : Int) else ((keptOf neg mag place * 2 ^ (last mag place + 1074).toNat : Nat) : Int)) := by
  obtain ⟨h1, h2⟩ := kept_bounds neg hm place
  have hlast : -1074 ≤ last mag place ∧ last mag place ≤ 970 := by unfold last; omega
  have hE : (last mag place - double.leastPlace).toNat = (last mag place + 1074).toNat := by rw [lp]; omega
  have hn : double.nearest neg mag place = double.word neg ((last mag place + 1074).toNat * 2 ^ 52 + keptOf neg mag place) := by
    unfold Format.nearest
    rw [if_neg hm]
    simp only [frb]
    have e1 : max (place + (mag.log2 : Int) - (52 : Nat)) double.leastPlace = last mag place := by rw [lp]; rfl
    rw [e1, hE, bnd, infr]
    congr 1
    apply Nat.min_eq_left
    show _ * _ + keptOf neg mag place ≤ _
    have : (last mag place + 1074).toNat ≤ 2044 := by omega
    have : (last mag place + 1074).toNat * 2 ^ 52 ≤ 2044 * 2 ^ 52 := Nat.mul_le_mul_right _ this
    exact Nat.le_trans (Nat.add_le_add this h1) (by decide)
  have hr : (last mag place + 1074).toNat * 2 ^ 52 + keptOf neg mag place < 2047 * 2 ^ 52 := by
    have : (last mag place + 1074).toNat ≤ 2044 := by omega
    have : (last mag place + 1074).toNat * 2 ^ 52 ≤ 2044 * 2 ^ 52 := Nat.mul_le_mul_right _ this
    exact Nat.lt_of_le_of_lt (Nat.add_le_add this h1) (by decide)
  rw [hn]
  obtain ⟨h3, h4⟩ := word_V neg _ hr
  refine ⟨h3, ?_⟩
  rw [h4, rmag_kept _ _ h1 (h2.imp (fun h => by omega) id)]

/-! ### Whole numbers -/
/-- x stands for the whole number n. -/
def U1 : Nat := 1074
def FI (x : Nat) (n : Int) : Prop := Fin x ∧ V x = n * 2 ^ U1

theorem log2_mul_pow {k : Nat} (hk : k ≠ 0) (sh : Nat) : (k * 2 ^ sh).log2 = k.log2 + sh := by
  have hm : k * 2 ^ sh ≠ 0 := Nat.mul_ne_zero hk (Nat.ne_of_gt (Nat.two_pow_pos _))
  apply Nat.le_antisymm
  · apply Nat.le_of_lt_succ
    rw [Nat.log2_lt hm, Nat.succ_eq_add_one, show k.log2 + sh + 1 = k.log2 + 1 + sh by omega, Nat.pow_add]
    exact Nat.mul_lt_mul_of_pos_right Nat.lt_log2_self (Nat.two_pow_pos _)
  · rw [Nat.le_log2 hm, Nat.pow_add]
    exact Nat.mul_le_mul_right _ (Nat.log2_self_le hk)


theorem last_small {mag : Nat} {place : Int} (h : place + mag.log2 - 52 ≤ place) (h2 : -1074 ≤ place) : last mag place ≤ place := by unfold last; omega

/-- Where nothing is cut off, the nearest word is exact. -/
theorem nearest_exact (neg : Bool) {k : Nat} (hk : k ≠ 0) (hk2 : k < 2 ^ 53) {sh : Nat} {place : Int} (hp : -1074 ≤ place + sh) (hlow : place + sh + k.log2 ≤ 1022) :
    Fin (double.nearest neg (k * 2 ^ sh) place) ∧ V (double.nearest neg (k * 2 ^ sh) place) = (if neg then -((k * 2 ^ (place + sh + 1074).toNat : Nat) : Int) else ((k * 2 ^ (place + sh + 1074).toNat : Nat) : Int)) := by
  have hm : k * 2 ^ sh ≠ 0 := Nat.mul_ne_zero hk (Nat.ne_of_gt (Nat.two_pow_pos _))
  have hlog : (k * 2 ^ sh).log2 = k.log2 + sh := log2_mul_pow hk sh
  have hkl : k.log2 ≤ 52 := by
    have := (Nat.log2_lt hk).2 hk2
    omega
  obtain ⟨h1, h2⟩ := nearest_V neg hm (place := place) (by rw [hlog]; omega)
  refine ⟨h1, ?_⟩
  rw [h2]
  have key : keptOf neg (k * 2 ^ sh) place * 2 ^ (last (k * 2 ^ sh) place + 1074).toNat = k * 2 ^ (place + sh + 1074).toNat := by
    unfold keptOf
    by_cases hs : last (k * 2 ^ sh) place ≤ place
    · have e1 : (last (k * 2 ^ sh) place - place).toNat = 0 := by omega
      rw [e1, Nat.shiftLeft_eq]
      have := cut_exact neg (k * 2 ^ sh * 2 ^ (place - last (k * 2 ^ sh) place).toNat) 0
      rw [Nat.pow_zero, Nat.mul_one] at this
      rw [this, Nat.mul_assoc, Nat.mul_assoc, ← Nat.pow_add, ← Nat.pow_add]
      congr 2
      unfold last at hs ⊢
      omega
    · have e1 : (place - last (k * 2 ^ sh) place).toNat = 0 := by omega
      rw [e1, Nat.shiftLeft_eq, Nat.pow_zero, Nat.mul_one]
      have hle : (last (k * 2 ^ sh) place - place).toNat ≤ sh := by unfold last; rw [hlog]; omega
      have e2 : k * 2 ^ sh = (k * 2 ^ (sh - (last (k * 2 ^ sh) place - place).toNat)) * 2 ^ (last (k * 2 ^ sh) place - place).toNat := by
        rw [Nat.mul_assoc, ← Nat.pow_add]; congr 2; omega
      generalize hL : last (k * 2 ^ sh) place = L at *
      rw [e2, cut_exact, Nat.mul_assoc, ← Nat.pow_add]
      congr 2
      have : -1074 ≤ L := by rw [← hL]; unfold last; omega
      omega
  rw [key]

theorem FI_ofInt {n : Int} (h : n.natAbs < 2 ^ 53) : FI (FloatKind.f64.nearest n) n := by
  unfold FloatKind.nearest FloatKind.encode
  show FI (double.write (.number (decide (n < 0)) n.natAbs 0)) n
  show FI (double.nearest (decide (n < 0)) n.natAbs 0) n
  by_cases h0 : n.natAbs = 0
  · have : n = 0 := by omega
    subst this
    have e : double.nearest (decide ((0 : Int) < 0)) (Int.natAbs 0) 0 = 0 := by decide
    rw [e]
    exact ⟨⟨by decide, by decide⟩, by simp [V, rmag]⟩
  · have hkl : n.natAbs.log2 ≤ 52 := by
      have := (Nat.log2_lt h0).2 h
      omega
    obtain ⟨h1, h2⟩ := nearest_exact (decide (n < 0)) h0 h (sh := 0) (place := 0) (by decide) (by omega)
    rw [Nat.pow_zero, Nat.mul_one] at h1 h2
    refine ⟨h1, ?_⟩
    rw [h2]
    have e : ((0 : Int) + (0 : Nat) + 1074).toNat = U1 := by decide
    rw [e]
    generalize U1 = u
    rw [Int.natCast_mul, Int.natCast_pow]
    show (if _ then -((n.natAbs : Nat) * (2 : Int) ^ u) else ((n.natAbs : Nat) * (2 : Int) ^ u)) = _
    by_cases hn : n < 0
    · simp only [hn, decide_true, if_true]
      have : ((n.natAbs : Nat) : Int) = -n := by omega
      rw [this, Int.neg_mul, Int.neg_neg]
    · simp only [hn, decide_false, Bool.false_eq_true, if_false]
      have : ((n.natAbs : Nat) : Int) = n := by omega
      rw [this]

end Go.Fl
