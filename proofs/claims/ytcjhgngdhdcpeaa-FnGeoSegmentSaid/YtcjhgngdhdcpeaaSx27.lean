/- '==' at pairs of small structs: arrays of two of them, structs of two of them. -/
import Derived.Test.YtcjhgngdhdcpeaaSx25
import Derived.DeepKeys
namespace Go.Sx
open Go.RowKit

section
variable {P : Program}

theorem hasK_len : ∀ {n : List Bool} {xs : List SV}, hasK n xs = true → xs.length = n.length
  | [], [], _ => rfl
  | [], _ :: _, h => by simp [hasK] at h
  | _ :: _, [], h => by simp [hasK] at h
  | k :: ks, v :: r, h => by
    unfold hasK at h
    split at h
    · simp only [Bool.and_eq_true] at h
      simp [hasK_len h.2]
    · simp only [Bool.and_eq_true] at h
      simp [hasK_len h.2]
    · cases h

theorem hasK_append : ∀ {n m : List Bool} {xs : List SV}, hasK (n ++ m) xs = true → ∃ a b, xs = a ++ b ∧ hasK n a = true ∧ hasK m b = true
  | [], m, xs, h => ⟨[], xs, rfl, rfl, h⟩
  | k :: n, m, [], h => by simp [hasK] at h
  | k :: n, m, v :: r, h => by
    unfold hasK at h
    simp only [List.cons_append] at h
    split at h
    · simp only [Bool.and_eq_true] at h
      obtain ⟨a, b, rfl, h1, h2⟩ := hasK_append h.2
      exact ⟨_ :: a, b, rfl, by simp [hasK, h.1, h1], h2⟩
    · simp only [Bool.and_eq_true] at h
      obtain ⟨a, b, rfl, h1, h2⟩ := hasK_append h.2
      refine ⟨_ :: a, b, rfl, ?_, h2⟩
      have := h.1
      simp at this
      simp [hasK, this, h1]
    · cases h

theorem lEq_append : ∀ {a b ys : List SV} {r : Bool}, lEq (a ++ b) ys = some r → ∃ c d r0 r1, ys = c ++ d ∧ lEq a c = some r0 ∧ lEq b d = some r1 ∧ r = (r0 && r1)
  | [], b, ys, r, h => ⟨[], ys, true, r, rfl, by simp [lEq], h, by simp⟩
  | x :: a, b, ys, r, h => by
    obtain ⟨y, ys', b0, b1, rfl, h1, h2, rfl⟩ := lEq_cons h
    obtain ⟨c, d, r0, r1, rfl, h3, h4, rfl⟩ := lEq_append h2
    exact ⟨y :: c, d, b0 && r0, r1, rfl, by simp [lEq, h1, h3], h4, by simp [Bool.and_assoc]⟩

theorem lEq_len : ∀ {a c : List SV} {r : Bool}, lEq a c = some r → c.length = a.length
  | [], c, r, h => by obtain ⟨rfl, _⟩ := lEq_nil h; rfl
  | x :: a, c, r, h => by
    obtain ⟨y, ys', b0, b1, rfl, h1, h2, rfl⟩ := lEq_cons h
    simp [lEq_len h2]

theorem getN_mid : ∀ (x pre post : List SV), Cont.getN (.cells (pre ++ x ++ post)) pre.length x.length = some x
  | [], _, _ => by simp [Cont.getN]
  | v :: x, pre, post => by
    simp only [List.length_cons, Cont.getN, Cont.get, getL_eq]
    have h1 : (pre ++ v :: x ++ post)[pre.length]? = some v := by simp
    rw [h1]
    have h2 := getN_mid x (pre ++ [v]) post
    simp only [List.length_append, List.length_cons, List.length_nil, Nat.zero_add, List.append_assoc, List.cons_append, List.nil_append] at h2
    simp only [List.append_assoc, List.cons_append]
    rw [h2]

theorem part_mid {T : Tys} (hT : TysOk P T) {e : Nat} {te : TI} (ht : ty T e = some te) (ha : te.isAgg = true) {pre x post : List SV} (hs : te.size = x.length) (ρ : Rho) (w : World) :
    (part e (denL ρ (pre ++ x ++ post)).toArray pre.length).run P w = .ok (.agg (denL ρ x).toArray) w := by
  have := (evPart_sound (U := fun _ => True) hT (cs := pre ++ x ++ post) (by rw [bdL_iff]; exact fun v _ => SV.bd_all v) (e := e) (o := pre.length) (v := .agg x)
    (by simp only [evPart, ht, ha, cut, hs]; rw [getN_mid]) ρ w).1
  simpa [SV.den] using this

/-- An array of two. -/
theorem fe_array2 {T : Tys} (hT : TysOk P T) {t e : Nat} {te : TI} {n : List Bool} {D : Nat} (hu : P.underlying t = some (.array 2 e)) (ht : ty T e = some te) (ha : te.isAgg = true) (hs : te.size = n.length)
    (he : FE P e n D) : FE P t (n ++ n) (D + 1) := by
  intro d xs ys b hx h ρ w
  obtain ⟨a, c, rfl, h1, h2⟩ := hasK_append hx
  obtain ⟨a', c', r0, r1, rfl, h3, h4, rfl⟩ := lEq_append h
  obtain ⟨i, hi, hsz, _⟩ := (hT e te ht).run_info
  have hc : P.cellsOf e = te.size := by simp [Program.cellsOf, hi, hsz]
  have la := hasK_len h1
  have lc := hasK_len h2
  have la' := lEq_len h3
  have lc' := lEq_len h4
  rw [show d + (D + 1) = (d + D) + 1 from rfl, run_equalIn_array w (d + D) _ _ hu hi, hc]
  have p0 := part_mid hT ht ha (pre := []) (x := a) (post := c) (by omega) ρ w
  have p1 := part_mid hT ht ha (pre := []) (x := a') (post := c') (by omega) ρ w
  have p2 := part_mid hT ht ha (pre := a) (x := c) (post := []) (by omega) ρ w
  have p3 := part_mid hT ht ha (pre := a') (x := c') (post := []) (by omega) ρ w
  simp only [List.nil_append, List.append_nil, List.length_nil] at p0 p1 p2 p3
  rw [show a.length = te.size by omega] at p2
  rw [show a'.length = te.size by omega] at p3
  have hr : List.range 2 = [0, 1] := rfl
  simp only [hr, Op.eqItems, Sem.run_bind, Nat.zero_mul, p0, p1, Result.andThen_ok, he d a a' r0 h1 h3 ρ w]
  cases r0
  · simp
  · simp only [Bool.not_true, Bool.false_eq_true, if_false, Sem.run_bind, Nat.one_mul, p2, p3, Result.andThen_ok, he d c c' r1 h2 h4 ρ w]
    cases r1 <;> simp

/-- A struct of two. -/
theorem fe_pair {T : Tys} (hT : TysOk P T) {t e : Nat} {te : TI} {n : List Bool} {D : Nat} {f0 f1 : Field} (hu : P.underlying t = some (.struct #[f0, f1])) (hp : P.stoodInHeld t = false)
    (hn0 : f0.name ≠ "_") (hn1 : f1.name ≠ "_") (h0 : f0.type = e ∧ f0.offset = 0) (h1 : f1.type = e ∧ f1.offset = te.size) (ht : ty T e = some te) (ha : te.isAgg = true) (hs : te.size = n.length)
    (he : FE P e n D) : FE P t (n ++ n) (D + 1) := by
  intro d xs ys b hx h ρ w
  have hf : P.fieldsOf t = #[f0, f1] := by simp [Program.fieldsOf, hu]
  obtain ⟨a, c, rfl, k1, k2⟩ := hasK_append hx
  obtain ⟨a', c', r0, r1, rfl, k3, k4, rfl⟩ := lEq_append h
  have la := hasK_len k1
  have lc := hasK_len k2
  have la' := lEq_len k3
  have lc' := lEq_len k4
  have p0 := part_mid hT ht ha (pre := []) (x := a) (post := c) (by omega) ρ w
  have p1 := part_mid hT ht ha (pre := []) (x := a') (post := c') (by omega) ρ w
  have p2 := part_mid hT ht ha (pre := a) (x := c) (post := []) (by omega) ρ w
  have p3 := part_mid hT ht ha (pre := a') (x := c') (post := []) (by omega) ρ w
  simp only [List.nil_append, List.append_nil, List.length_nil] at p0 p1 p2 p3
  rw [show a.length = te.size by omega] at p2
  rw [show a'.length = te.size by omega] at p3
  rw [show d + (D + 1) = (d + D) + 1 from rfl, run_equalIn_agg w (d + D) t _ _ (by rw [hf]; exact hu) hp, hf]
  simp only [Op.eqFields, hn0, hn1, ne_eq, not_false_eq_true, if_true, h0.1, h0.2, h1.1, h1.2, Sem.run_bind, p0, p1, Result.andThen_ok, he d a a' r0 k1 k3 ρ w]
  cases r0
  · simp
  · simp only [Bool.not_true, Bool.false_eq_true, if_false, Sem.run_bind, p2, p3, Result.andThen_ok, he d c c' r1 k2 k4 ρ w]
    cases r1 <;> simp
end
end Go.Sx
