/- '==' at small structs and arrays of numbers. -/
import Derived.Test.YtcjhgngdhdcpeaaSx24
import Derived.ChangeKeysEq
namespace Go.Sx
open Go.RowKit

def numK (k : Bool) : TK → Bool
  | .flt _ => k
  | .int _ => !k
  | _ => false

theorem lEq_cons {x : SV} {xs ys : List SV} {b : Bool} (h : lEq (x :: xs) ys = some b) : ∃ y ys' b0 b1, ys = y :: ys' ∧ sEq x y = some b0 ∧ lEq xs ys' = some b1 ∧ b = (b0 && b1) := by
  cases ys with
  | nil => simp [lEq] at h
  | cons y ys' =>
    simp only [lEq] at h
    split at h
    · rename_i b0 h0
      split at h
      · rename_i b1 h1
        simp only [Option.some.injEq] at h
        exact ⟨y, ys', b0, b1, rfl, h0, h1, h.symm⟩
      · cases h
    · cases h

theorem lEq_nil {ys : List SV} {b : Bool} (h : lEq [] ys = some b) : ys = [] ∧ b = true := by
  cases ys with
  | nil => simp only [lEq, Option.some.injEq] at h; exact ⟨rfl, h.symm⟩
  | cons y r => simp [lEq] at h

theorem sEq_one {x y : SV} {b : Bool} (h : sEq x y = some b) : (∃ k a c, x = .int k a ∧ y = .int k c ∧ b = (a == c)) ∨ (∃ k a c, x = .flt k a ∧ y = .flt k c ∧ b = fEq k a c) := by
  unfold sEq at h
  split at h
  · split at h
    · rename_i he
      have := kEq_eq he
      subst this
      simp only [Option.some.injEq] at h
      exact .inl ⟨_, _, _, rfl, rfl, h.symm⟩
    · cases h
  · split at h
    · rename_i he
      have := fkEq_eq he
      subst this
      simp only [Option.some.injEq] at h
      exact .inr ⟨_, _, _, rfl, rfl, h.symm⟩
    · cases h
  · cases h

section
variable {P : Program} (w : World) (ρ : Rho)

theorem run_equalIn_num {d t : Nat} {ti : TI} (ht : TOk P t ti) {k : Bool} (hk : numK k ti.tk = true) {x y : SV} {b : Bool} (hx : hasK [k] [x] = true) (h : sEq x y = some b) :
    (Op.equalIn (d + 1) t (x.den ρ) (y.den ρ)).run P w = .ok b w := by
  obtain ⟨dd, hd, hd2⟩ := ht.desc
  rcases sEq_one h with ⟨k1, a, c, rfl, rfl, rfl⟩ | ⟨k1, a, c, rfl, rfl, rfl⟩
  · simp only [hasK, Bool.and_true, Bool.not_eq_true'] at hx
    subst hx
    cases dd <;> simp only [tkOf] at hd2 <;> rw [← hd2] at hk <;> simp [numK] at hk
    unfold Op.equalIn
    simp [run_underlying hd, SV.den]
  · simp only [hasK, Bool.and_true] at hx
    subst hx
    cases dd <;> simp only [tkOf] at hd2 <;> rw [← hd2] at hk <;> simp [numK] at hk
    unfold Op.equalIn
    simp [run_underlying hd, SV.den]
    rfl

theorem num_flat {ti : TI} {k : Bool} (hk : numK k ti.tk = true) : ti.isAgg = false := by
  unfold TI.isAgg
  split <;> rename_i hh <;> simp_all [numK]

/-- Equal as values, at every depth from D on. -/
def FE (P : Program) (t : Nat) (n : List Bool) (D : Nat) : Prop :=
  ∀ (d : Nat) (xs ys : List SV) (b : Bool), hasK n xs = true → lEq xs ys = some b → ∀ (ρ : Rho) (w : World), (Op.equalIn (d + D) t (.agg (denL ρ xs).toArray) (.agg (denL ρ ys).toArray)).run P w = .ok b w

theorem FE.flat {t : Nat} {n : List Bool} {D : Nat} (h : FE P t n D) (hg : P.eqGuardType P.depth t = false) (hD : D ≤ 10000) : FlatEq P t n :=
  ⟨hg, fun xs ys b hx hb ρ w => by
    have := h (10000 - D) xs ys b hx hb ρ w
    rw [Nat.sub_add_cancel hD] at this
    exact this⟩

/-- A struct of two numbers. -/
theorem fe_struct2 {T : Tys} (hT : TysOk P T) {t e0 e1 : Nat} {f0 f1 : Field} {t0 t1 : TI} {k0 k1 : Bool} (hu : P.underlying t = some (.struct #[f0, f1])) (hp : P.stoodInHeld t = false)
    (hn0 : f0.name ≠ "_") (hn1 : f1.name ≠ "_") (h0 : f0.type = e0 ∧ f0.offset = 0) (h1 : f1.type = e1 ∧ f1.offset = 1) (ht0 : ty T e0 = some t0) (ht1 : ty T e1 = some t1)
    (hk0 : numK k0 t0.tk = true) (hk1 : numK k1 t1.tk = true) : FE P t [k0, k1] 2 := by
  intro d xs ys b hx h ρ w
  have hf : P.fieldsOf t = #[f0, f1] := by simp [Program.fieldsOf, hu]
  match xs with
  | [] => simp [hasK] at hx
  | [_] => simp [hasK] at hx; split at hx <;> simp at hx
  | _ :: _ :: _ :: _ => simp [hasK] at hx; split at hx <;> (try split at hx) <;> simp at hx
  | [x0, x1] =>
    obtain ⟨y0, ys', b0, c, rfl, e0', h', rfl⟩ := lEq_cons h
    obtain ⟨y1, ys'', b1, c', rfl, e1', h'', rfl⟩ := lEq_cons h'
    obtain ⟨rfl, rfl⟩ := lEq_nil h''
    have hx0 : hasK [k0] [x0] = true := by
      rcases sEq_one e0' with ⟨k, a, c, rfl, rfl, rfl⟩ | ⟨k, a, c, rfl, rfl, rfl⟩ <;> simp_all [hasK]
    have hx1 : hasK [k1] [x1] = true := by
      rcases sEq_one e0' with ⟨k, a, c, rfl, rfl, rfl⟩ | ⟨k, a, c, rfl, rfl, rfl⟩ <;> rcases sEq_one e1' with ⟨k, a, c, rfl, rfl, rfl⟩ | ⟨k, a, c, rfl, rfl, rfl⟩ <;> simp_all [hasK]
    have p0 := fun (cs : List SV) (v : SV) (hc : cs[0]? = some v) => (evPart_sound (U := fun _ => True) hT (cs := cs) (by rw [bdL_iff]; exact fun v _ => SV.bd_all v) (e := e0) (o := 0) (v := v) (by simp [evPart, ht0, num_flat hk0, getL_eq, hc]) ρ w).1
    have p1 := fun (cs : List SV) (v : SV) (hc : cs[1]? = some v) => (evPart_sound (U := fun _ => True) hT (cs := cs) (by rw [bdL_iff]; exact fun v _ => SV.bd_all v) (e := e1) (o := 1) (v := v) (by simp [evPart, ht1, num_flat hk1, getL_eq, hc]) ρ w).1
    rw [run_equalIn_agg w (d + 1) t _ _ (by rw [hf]; exact hu) hp, hf]
    simp only [Op.eqFields, hn0, hn1, ne_eq, not_false_eq_true, if_true, h0.1, h0.2, h1.1, h1.2, Sem.run_bind]
    rw [p0 _ x0 rfl]
    simp only [Result.andThen_ok]
    rw [p0 _ y0 rfl]
    simp only [Result.andThen_ok, run_equalIn_num w ρ (hT _ _ ht0) hk0 hx0 e0']
    cases b0
    · simp
    · simp only [Bool.not_true, Bool.false_eq_true, if_false, Sem.run_bind]
      rw [p1 _ x1 rfl]
      simp only [Result.andThen_ok]
      rw [p1 _ y1 rfl]
      simp only [Result.andThen_ok, run_equalIn_num w ρ (hT _ _ ht1) hk1 hx1 e1']
      cases b1 <;> simp

end
end Go.Sx
