/- Binary operators whole; unary operators; conversions. -/
import Derived.Test.YtcjhgngdhdcpeaaSx4
namespace Go.Sx
open Go.RowKit

section
variable {P : Program} {T : Tys} {F : Flats} (w : World) (ρ : Rho)

theorem eqTo_sound {op : BinOp} {b : Bool} {v : SV} {o : Option Prop} (h : eqTo op b = some (v, o)) {t : Nat} {x y : Value}
    (hx : ∀ k n, x ≠ .int k n) (hx2 : ∀ k n, x ≠ .float k n) (hx3 : ∀ k n m, x ≠ .complex k n m) (hx4 : ∀ s, x ≠ .string s) (he : (Op.equal t x y).run P w = .ok b w) :
    (binOp op t x y).run P w = .ok (v.den ρ) w ∧ v.closed = true := by
  cases op <;> simp only [eqTo, Option.some.injEq, Prod.mk.injEq, reduceCtorEq] at h <;> obtain ⟨rfl, rfl⟩ := h <;>
    cases x <;> simp_all [binOp, SV.den, SV.closed]

theorem eqLit_sound {op : BinOp} {b : Bool} {v : SV} {o : Option Prop} (h : eqLit op b = some (v, o)) {t : Nat} {x y : Value}
    (hx : ∀ k n, x ≠ .int k n) (hx2 : ∀ k n, x ≠ .float k n) (hx3 : ∀ k n m, x ≠ .complex k n m) (hx4 : ∀ s, x ≠ .string s) (he : (Op.equal t x y).run P w = .ok b w) :
    (binOp op t x y).run P w = .ok (v.den ρ) w ∧ v.closed = true := by
  cases b <;> cases op <;> simp only [eqLit, Option.some.injEq, Prod.mk.injEq, reduceCtorEq] at h <;> obtain ⟨rfl, rfl⟩ := h <;>
    cases x <;> simp_all [binOp, SV.den, SV.closed]

theorem equal_succ (t : Nat) (x y : Value) : Op.equal t x y = Op.equalIn (9999 + 1) t x y := rfl

theorem run_equal_iface_nil {t : Nat} {ms : Array (String × TypeId)} (hd : P.underlying t = some (.interface ms)) (u : TypeId) (z : Value) :
    (Op.equal t (.iface u z) .nilIface).run P w = .ok false w := by
  rw [equal_succ]; unfold Op.equalIn
  simp only [Sem.run_bind, run_underlying hd, Result.andThen_ok, Sem.run_pure]

theorem run_equal_nil_nil {t : Nat} {ms : Array (String × TypeId)} (hd : P.underlying t = some (.interface ms)) :
    (Op.equal t .nilIface .nilIface).run P w = .ok true w := by
  rw [equal_succ]; unfold Op.equalIn
  simp only [Sem.run_bind, run_underlying hd, Result.andThen_ok, Sem.run_pure]

theorem run_equal_bool {t : Nat} (hd : P.underlying t = some .bool) (a b : Bool) :
    (Op.equal t (.bool a) (.bool b)).run P w = .ok (a == b) w := by
  rw [equal_succ]; unfold Op.equalIn
  simp only [Sem.run_bind, run_underlying hd, Result.andThen_ok, Sem.run_pure]

theorem eqGuard_agg {op : BinOp} {t : Nat} {xo yo : Operand} {a b : Array Value} (h : P.eqGuardType P.depth t = false) :
    (eqGuard op t xo yo (.agg a) (.agg b)).run P w = .ok () w := by
  cases op <;> simp [eqGuard, h]

theorem evBin_sound (hT : TysOk P T) (hF : FlatsOk P F) {op : BinOp} {t : Nat} {xo yo : Operand} {x y v : SV} {o : Option Prop} (h : evBin T F op t xo yo x y = some (v, o)) (ho : okP o)
    (hxo : isConst xo = true → xo = .const (x.den ρ)) (hyo : isConst yo = true → yo = .const (y.den ρ)) :
    (do eqGuard op t xo yo (x.den ρ) (y.den ρ); binOp op t (x.den ρ) (y.den ρ) : Sem Value).run P w = .ok (v.den ρ) w ∧ v.closed = true := by
  unfold evBin at h
  split at h
  · rename_i k a k' b
    have hg : (eqGuard op t xo yo (.int k a) (.int k' b)).run P w = .ok () w := by rw [eqGuard_at_int]; rfl
    simp only [SV.den, Sem.run_bind, hg, Result.andThen_ok]
    split at h
    · exact evShift_sound w ρ h ho t
    · split at h
      · rename_i hk
        rw [kEq_eq hk] at h ⊢
        exact evInt_sound w ρ h ho t
      · cases h
  · rename_i k a k' b
    have hg : (eqGuard op t xo yo (.float k a) (.float k' b)).run P w = .ok () w := by rw [eqGuard_at_float]; rfl
    simp only [SV.den, Sem.run_bind, hg, Result.andThen_ok]
    split at h
    · rename_i hk
      rw [fkEq_eq hk] at h ⊢
      exact evFlt_sound w ρ h ho t
    · cases h
  · rename_i a b
    have hg : (eqGuard op t xo yo (.string a) (.string b)).run P w = .ok () w := by rw [eqGuard_at_string]; rfl
    simp only [SV.den, Sem.run_bind, hg, Result.andThen_ok]
    exact evStr_sound w ρ h ho t
  · rename_i xs ys
    split at h
    · rename_i n hn
      split at h
      · rename_i hlen
        split at h
        · rename_i b hb
          obtain ⟨h1, h2⟩ := hF t n hn
          simp only [SV.den, Sem.run_bind, eqGuard_agg w h1, Result.andThen_ok]
          exact eqTo_sound w ρ h (by simp) (by simp) (by simp) (by simp) (h2 xs ys b hlen hb ρ w)
        · cases h
      · cases h
    · cases h
  · rename_i u z
    split at h
    · rename_i ti hti
      have htk := hT t _ hti
      obtain ⟨d, hd, hk⟩ := htk.desc
      have hg : (eqGuard op t xo yo (.iface u (z.den ρ)) .nilIface).run P w = .ok () w := by rw [eqGuard_at_iface]; rfl
      simp only [SV.den, Sem.run_bind, hg, Result.andThen_ok]
      refine eqLit_sound w ρ h (by simp) (by simp) (by simp) (by simp) ?_
      cases d <;> simp [tkOf] at hk
      exact run_equal_iface_nil w hd u _
    · cases h
  · split at h
    · rename_i ti hti
      split at h
      · rename_i hc
        have htk := hT t _ hti
        obtain ⟨d, hd, hk⟩ := htk.desc
        have hg : (eqGuard op t xo yo .nilIface .nilIface).run P w = .ok () w := by
          simp only [Bool.or_eq_true] at hc
          rcases hc with hc | hc
          · rw [hxo hc, eqGuard_nil_constL]; rfl
          · rw [hyo hc, eqGuard_nil_constR]; rfl
        simp only [SV.den, Sem.run_bind, hg, Result.andThen_ok]
        refine eqLit_sound w ρ h (by simp) (by simp) (by simp) (by simp) ?_
        cases d <;> simp [tkOf] at hk
        exact run_equal_nil_nil w hd
      · cases h
    · cases h
  · split at h
    · rename_i a b ha hb
      split at h
      · rename_i ti hti
        have htk := hT t _ hti
        obtain ⟨d, hd, hk⟩ := htk.desc
        rw [SV.toB_den ha, SV.toB_den hb]
        have hg : (eqGuard op t xo yo (.bool a) (.bool b)).run P w = .ok () w := by rw [eqGuard_at_bool]; rfl
        simp only [Sem.run_bind, hg, Result.andThen_ok]
        refine eqTo_sound w ρ h (by simp) (by simp) (by simp) (by simp) ?_
        cases d <;> simp [tkOf] at hk
        exact run_equal_bool w hd a b
      · cases h
    · cases h
end

/-! ### Unary operators, conversions -/
def fneg (k : FloatKind) (b : Nat) : Nat := Op.negFloat k b

def evUn (op : UnOp) (x : SV) : Option (SV × Option Prop) :=
  match op, x with
  | .not, .tt => some (.ff, none)
  | .not, .ff => some (.tt, none)
  | .not, .bool b => some (.bool (!b), none)
  | .neg, .int k n => some (.int k (k.wrap (0 - n)), none)
  | .neg, .flt k b => some (.flt k (fneg k b), none)
  | .xor, .int k n => some (.int k (ibits .xor k (if k.signed then -1 else k.max) n), none)
  | _, _ => none

theorem evUn_sound {P : Program} (w : World) (ρ : Rho) {op : UnOp} {x v : SV} {o : Option Prop} (h : evUn op x = some (v, o)) :
    (Op.unary op (x.den ρ)).run P w = .ok (v.den ρ) w ∧ v.closed = true := by
  unfold evUn at h
  split at h <;> simp only [Option.some.injEq, Prod.mk.injEq, reduceCtorEq] at h <;> obtain ⟨rfl, rfl⟩ := h <;>
    simp [Op.unary, Op.intArith, Op.intBits, SV.den, SV.closed, fneg, ibits]

/-- 'float64(n)'. -/
def ofI (k : FloatKind) (n : Int) : Nat := k.nearest n
/-- 'int(x)': x cut towards zero, in range. -/
def toI (k : FloatKind) (bits : Nat) (d : IntKind) : Int := (floatToIntVal k bits d).getD 0
def toIok (k : FloatKind) (bits : Nat) (d : IntKind) : Prop := (floatToIntVal k bits d).isSome = true
def f2f (s : FloatKind) (bits : Nat) (d : FloatKind) : Nat := (floatToFloatBits s bits d).getD 0
def f2fok (s : FloatKind) (bits : Nat) (d : FloatKind) : Prop := (floatToFloatBits s bits d).isSome = true

def evConv (T : Tys) (src dst : Nat) (x : SV) : Option (SV × Option Prop) :=
  match ty T src with
  | none => none
  | some _ => match ty T dst with
    | none => none
    | some d => match d.tk, x with
      | .int k, .int _ n => some (.int k (k.wrap n), none)
      | .flt k, .int _ n => some (.flt k (ofI k n), none)
      | .int k, .flt s b => some (.int k (toI s b k), some (toIok s b k))
      | .flt k, .flt s b => some (.flt k (f2f s b k), some (f2fok s b k))
      | _, _ => none

theorem evConv_sound {P : Program} {T : Tys} (hT : TysOk P T) (w : World) (ρ : Rho) {src dst : Nat} {x v : SV} {o : Option Prop} (h : evConv T src dst x = some (v, o)) (ho : okP o) :
    (convert src dst (x.den ρ)).run P w = .ok (v.den ρ) w ∧ v.closed = true := by
  unfold evConv at h
  split at h
  · cases h
  rename_i si hsi
  split at h
  · cases h
  rename_i di hdi
  obtain ⟨ds, hds, hks⟩ := (hT src si hsi).desc
  obtain ⟨dd, hdd, hkd⟩ := (hT dst di hdi).desc
  have his : (P.underlying src).isSome = true := by simp [hds]
  split at h <;> simp only [Option.some.injEq, Prod.mk.injEq, reduceCtorEq] at h <;> obtain ⟨rfl, rfl⟩ := h <;> rename_i htk <;> rw [htk] at hkd <;> cases dd <;> simp only [tkOf, TK.int.injEq, TK.flt.injEq, reduceCtorEq] at hkd <;> subst hkd
  · cases ds <;> simp [convert, run_underlying hds, run_underlying hdd, Conv.intToInt, SV.den, SV.closed]
  · refine ⟨?_, rfl⟩
    simp only [SV.den]
    rw [run_convert_int_float w src dst _ _ _ his hdd]; rfl
  · obtain ⟨r, hr⟩ := Option.isSome_iff_exists.1 ho
    refine ⟨?_, rfl⟩
    simp only [SV.den]
    rw [run_convert_float_int w src dst _ _ _ r his hdd hr]; simp [toI, hr]
  · obtain ⟨r, hr⟩ := Option.isSome_iff_exists.1 ho
    refine ⟨?_, rfl⟩
    simp only [SV.den]
    rw [run_convert_float_float w src dst _ _ _ r his hdd hr]; simp [f2f, hr]

end Go.Sx
