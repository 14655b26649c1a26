/- Interface values, tuples, lengths; the effect of an operation, whole. -/
import Derived.Test.YtcjhgngdhdcpeaaSx10
namespace Go.Sx
open Go.RowKit

section
variable {P : Program} {W0 : World} {Fr : Nat → Prop} {U : Nm → Prop} {H : Heap} {ρ : Rho} {w : World} {nm : Nm}

def evMakeIface (T : Tys) (t : Nat) (x : SV) : Option Eff :=
  match ty T t with
  | some { tk := .iface, .. } => none
  | some _ => some (Eff.pure (.ifc t x))
  | none => none

theorem evMakeIface_sound {T : Tys} (hT : TysOk P T) (hH : HSat W0 Fr U H ρ w) {t : Nat} {x : SV} (hx : x.bd U) {e : Eff} (h : evMakeIface T t x = some e) :
    Done W0 Fr U H ρ nm e ((do pure (.value (← Instr.makeInterface t (x.den ρ))) : Sem Next).run P w) := by
  unfold evMakeIface at h
  split at h
  · cases h
  · rename_i ti hno hti
    simp only [Option.some.injEq] at h
    subst h
    obtain ⟨d, hd, hd2⟩ := (hT t _ hti).desc
    refine Done.same hH (v := .ifc t x) (by simpa [SV.bd] using hx) ?_
    cases d <;> first
      | (simp [Instr.makeInterface, run_underlying hd, SV.den]; done)
      | skip
    rename_i ms
    simp only [tkOf] at hd2
    obtain ⟨tk, sz, by', z⟩ := ti
    simp only at hd2
    subst hd2
    exact (hno sz by' z rfl).elim
  · cases h

/-- The zero value of a type. -/
def zeroSV (ti : TI) : Option SV :=
  match ti.zero with
  | .cells z => match ti.isAgg with
    | true => some (.agg z)
    | false => match z with
      | [v] => some v
      | _ => none
  | _ => none

def evAssert (x : SV) (asserted : Nat) (T : Tys) (ok : Bool) : Option Eff :=
  match ty T asserted with
  | some { tk := .iface, .. } => none
  | some _ => match x with
    | .ifc t v => match Nat.beq t asserted with
      | true => match ok with
        | true => some (Eff.pure (.tup [v, .tt]))
        | false => some (Eff.pure v)
      | false => none
    | _ => none
  | none => none

theorem evAssert_sound {T : Tys} (hT : TysOk P T) (hH : HSat W0 Fr U H ρ w) {xt asserted : Nat} {x : SV} (hx : x.bd U) {ok : Bool} {e : Eff} (h : evAssert x asserted T ok = some e) :
    Done W0 Fr U H ρ nm e ((do pure (.value (← Instr.typeAssert (x.den ρ) xt asserted ok)) : Sem Next).run P w) := by
  unfold evAssert at h
  split at h
  · cases h
  · rename_i ti hno hti
    split at h
    · rename_i t v
      split at h
      · rename_i ht
        have := Nat.eq_of_beq_eq_true ht
        subst this
        obtain ⟨d, hd, hd2⟩ := (hT t _ hti).desc
        have hni : ∀ ms, d ≠ .interface ms := by
          intro ms e; subst e
          obtain ⟨tk, sz, by', z⟩ := ti
          simp only [tkOf] at hd2
          subst hd2
          exact (hno sz by' z rfl).elim
        simp only [SV.bd] at hx
        split at h <;> (simp only [Option.some.injEq] at h; subst h)
        · refine Done.same hH (v := .tup [v, .tt]) (by simp [SV.bd, bdL, hx]) ?_
          cases d <;> first
            | exact absurd rfl (hni _)
            | simp [Instr.typeAssert, run_underlying hd, SV.den, denL]
        · refine Done.same hH hx ?_
          cases d <;> first
            | exact absurd rfl (hni _)
            | simp [Instr.typeAssert, run_underlying hd, SV.den]
      · cases h
    · cases h
  · cases h

def evExtract (x : SV) (i : Nat) : Option Eff :=
  match x with
  | .tup vs => match getL vs i with
    | some v => some (Eff.pure v)
    | none => none
  | _ => none

theorem evExtract_sound (hH : HSat W0 Fr U H ρ w) {x : SV} (hx : x.bd U) {i : Nat} {e : Eff} (h : evExtract x i = some e) :
    Done W0 Fr U H ρ nm e ((do pure (.value (← Instr.extract (x.den ρ) i)) : Sem Next).run P w) := by
  unfold evExtract at h
  split at h
  · rename_i vs
    split at h
    · rename_i v hv
      simp only [Option.some.injEq] at h
      subst h
      rw [getL_eq] at hv
      refine Done.same hH (v := v) ?_ ?_
      · simp only [SV.bd, bdL_iff] at hx
        exact hx v (List.mem_of_getElem? hv)
      · have : (denL ρ vs).toArray[i]? = some (v.den ρ) := by simp [denL_eq, hv]
        simp only [Instr.extract, SV.den, this, Sem.run_bind, Sem.run_pure, Result.andThen_ok]
    · cases h
  · cases h

def evLen (T : Tys) (t : Nat) (x : SV) : Option SV :=
  match ty T t with
  | some { tk := .slice _, .. } => match x with
    | .slc _ _ len _ => some (.int .i64 (len : Nat))
    | .slcc _ len => some (.int .i64 (len : Nat))
    | .nils => some (.int .i64 0)
    | _ => none
  | some { tk := .str, .. } => match x with
    | .str s => some (.int .i64 (s.size : Nat))
    | _ => none
  | some { tk := .array n _, .. } => some (.int .i64 (n : Nat))
  | _ => none

theorem evLen_sound {T : Tys} (hT : TysOk P T) {t : Nat} {x v : SV} (h : evLen T t x = some v) (ty' : Nat) :
    (Builtin.len_ #[t] ty' #[x.den ρ]).run P w = .ok (v.den ρ) w ∧ v.closed = true := by
  unfold evLen at h
  split at h
  · rename_i hti
    obtain ⟨d, hd, hd2⟩ := (hT t _ hti).desc
    cases d <;> simp only [tkOf, TK.slice.injEq, reduceCtorEq] at hd2
    split at h <;> simp only [Option.some.injEq, reduceCtorEq] at h <;> subst h <;> simp [Builtin.len_, run_underlying hd, SV.den, goInt, SV.closed]
  · rename_i hti
    obtain ⟨d, hd, hd2⟩ := (hT t _ hti).desc
    cases d <;> simp only [tkOf, reduceCtorEq] at hd2
    split at h <;> simp only [Option.some.injEq, reduceCtorEq] at h <;> subst h <;> simp [Builtin.len_, run_underlying hd, SV.den, goInt, SV.closed]
  · rename_i hti
    obtain ⟨d, hd, hd2⟩ := (hT t _ hti).desc
    cases d <;> simp only [tkOf, TK.array.injEq, reduceCtorEq] at hd2
    obtain ⟨rfl, rfl⟩ := hd2
    simp only [Option.some.injEq] at h
    subst h
    simp [Builtin.len_, run_underlying hd, SV.den, goInt, SV.closed]
  · cases h

/-- The lesser, the greater of two integers, as the builtins take them. -/
def imin (x y : Int) : Int := if y < x then y else x
def imax (x y : Int) : Int := if y > x then y else x

def evMin2 (mx : Bool) (x y : SV) : Option SV :=
  match x, y with
  | .int k a, .int k' b => match kEq k k' with
    | true => match mx with
      | true => some (.int k (imax a b))
      | false => some (.int k (imin a b))
    | false => none
  | _, _ => none

end

theorem min2_sound {P : Program} (w : World) (ρ : Rho) {mx : Bool} {x y v : SV} (h : evMin2 mx x y = some v) :
    ((if mx then Builtin.max_ else Builtin.min_) #[] 0 #[x.den ρ, y.den ρ]).run P w = .ok (v.den ρ) w ∧ v.closed = true := by
  unfold evMin2 at h
  split at h
  · split at h
    · rename_i hk
      have := kEq_eq hk
      subst this
      split at h <;> simp only [Option.some.injEq] at h <;> subst h
      · refine ⟨?_, rfl⟩
        simp [Builtin.max_, Builtin.max2, SV.den, imax]
      · refine ⟨?_, rfl⟩
        simp [Builtin.min_, Builtin.min2, SV.den, imin]
    · cases h
  · cases h

end Go.Sx
