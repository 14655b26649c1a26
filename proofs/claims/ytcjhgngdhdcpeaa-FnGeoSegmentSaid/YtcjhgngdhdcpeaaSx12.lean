/- The effect of an operation, whole. -/
import Derived.Test.YtcjhgngdhdcpeaaSx21
namespace Go.Sx
open Go.RowKit

/-- What the walk knows of a program's types. -/
structure Env where
  T : Tys
  F : Flats

structure EnvOk (P : Program) (E : Env) : Prop where
  T : TysOk P E.T
  F : FlatsOk P E.F

def evL (ev : Operand → Option SV) : List Operand → Option (List SV)
  | [] => some []
  | x :: r => match ev x with
    | some v => match evL ev r with
      | some vs => some (v :: vs)
      | none => none
    | none => none

theorem evL_sound {U : Nm → Prop} {ρ : Rho} {ev : Operand → Option SV} {a : Act} (hev : ∀ x v, ev x = some v → a.eval x = v.den ρ ∧ v.bd U) : ∀ {xs : List Operand} {vs : List SV}, evL ev xs = some vs →
    xs.map a.eval = denL ρ vs ∧ bdL U vs
  | [], vs, h => by simp only [evL, Option.some.injEq] at h; subst h; simp [denL, bdL]
  | x :: r, vs, h => by
    simp only [evL] at h
    split at h
    · rename_i v hv
      split at h
      · rename_i qs hqs
        simp only [Option.some.injEq] at h
        subst h
        obtain ⟨h1, h2⟩ := evL_sound hev hqs
        obtain ⟨h3, h4⟩ := hev x v hv
        exact ⟨by simp [denL, h3, h1], by simp [bdL, h4, h2]⟩
      · cases h
    · cases h

/-- An operand that may be absent. -/
def evO (ev : Operand → Option SV) : Option Operand → Option (Option SV)
  | none => some none
  | some x => match ev x with
    | some v => some (some v)
    | none => none

theorem evO_sound {U : Nm → Prop} {ρ : Rho} {ev : Operand → Option SV} {a : Act} (hev : ∀ x v, ev x = some v → a.eval x = v.den ρ ∧ v.bd U) {x : Option Operand} {v : Option SV} (h : evO ev x = some v) :
    x.map a.eval = v.map (SV.den ρ) := by
  cases x with
  | none => simp only [evO, Option.some.injEq] at h; subst h; rfl
  | some x =>
    simp only [evO] at h
    split at h
    · rename_i u hu
      simp only [Option.some.injEq] at h
      subst h
      simp [(hev x u hu).1]
    · cases h

def evPick (c a b : SV) : Option SV :=
  match c with
  | .tt => some a
  | .ff => some b
  | .bool p => match a.toB, b.toB with
    | some x, some y => some (.bool (cond p x y))
    | _, _ => none
  | _ => none

theorem evPick_sound {ρ : Rho} {U : Nm → Prop} {c a b v : SV} (h : evPick c a b = some v) (ha : a.bd U) (hb : b.bd U) :
    ∃ p : Bool, c.den ρ = .bool p ∧ v.den ρ = (if p then a.den ρ else b.den ρ) ∧ v.bd U := by
  unfold evPick at h
  split at h
  · simp only [Option.some.injEq] at h; subst h; exact ⟨true, rfl, rfl, ha⟩
  · simp only [Option.some.injEq] at h; subst h; exact ⟨false, rfl, rfl, hb⟩
  · rename_i p
    split at h
    · rename_i x y hx hy
      simp only [Option.some.injEq] at h
      subst h
      refine ⟨p, rfl, ?_, trivial⟩
      rw [SV.toB_den hx, SV.toB_den hy]
      cases p <;> rfl
    · cases h
  · cases h

/-- Calls of builtins that make nothing. -/
def evBuiltin (T : Tys) (b : Builtin) (argTypes : List Nat) (vs : List SV) : Option SV :=
  match b, argTypes, vs with
  | .len, [t], [x] => evLen T t x
  | .min, _, [x, y] => evMin2 false x y
  | .max, _, [x, y] => evMin2 true x y
  | _, _, _ => none

def evCallB (E : Env) (ev : Operand → Option SV) (rd : Nm → Option Ob) (nm : Nm) (c : Call) : Option Eff :=
  match c.callee with
  | .builtin .append => match c.argTypes.toList with
    | [t, t'] => match Nat.beq t t' with
      | true => match evL ev c.args.toList with
        | some [s, x] => evAppend E.T rd nm t s x
        | _ => none
      | false => none
    | _ => none
  | .builtin b => match evL ev c.args.toList with
    | some vs => match evBuiltin E.T b c.argTypes.toList vs with
      | some v => some (Eff.pure v)
      | none => none
    | none => none
  | _ => none

theorem evBuiltin_sound {P : Program} {T : Tys} (hT : TysOk P T) (w : World) (ρ : Rho) {b : Builtin} {ats : List Nat} {vs : List SV} {v : SV} (h : evBuiltin T b ats vs = some v) (ty' : Nat) (cs : Array Bool) :
    (builtin b ats.toArray ty' cs (denL ρ vs).toArray).run P w = .ok (.value (v.den ρ)) w ∧ v.closed = true := by
  unfold evBuiltin at h
  split at h
  · obtain ⟨h1, h2⟩ := evLen_sound (w := w) (ρ := ρ) hT h ty'
    exact ⟨by simp [builtin, denL, h1], h2⟩
  · obtain ⟨h1, h2⟩ := min2_sound (P := P) w ρ h
    simp only [Bool.false_eq_true, if_false] at h1
    refine ⟨?_, h2⟩
    simp only [builtin, Sem.run_bind, denL]
    rw [show Builtin.min_ ats.toArray ty' = Builtin.min_ #[] 0 from rfl]
    rename_i x y
    rw [show ([x.den ρ, y.den ρ].toArray) = #[x.den ρ, y.den ρ] from rfl, h1]
    rfl
  · obtain ⟨h1, h2⟩ := min2_sound (P := P) w ρ h
    simp only [if_true] at h1
    refine ⟨?_, h2⟩
    simp only [builtin, Sem.run_bind, denL]
    rw [show Builtin.max_ ats.toArray ty' = Builtin.max_ #[] 0 from rfl]
    rename_i x y
    rw [show ([x.den ρ, y.den ρ].toArray) = #[x.den ρ, y.den ρ] from rfl, h1]
    rfl
  · cases h

def evOp (E : Env) (ev : Operand → Option SV) (rd : Nm → Option Ob) (nm : Nm) (o : Op) : Option Eff :=
  match o with
  | .move x => match ev x with
    | some v => some (Eff.pure v)
    | none => none
  | .assign x => match ev x with
    | some v => some (Eff.pure v)
    | none => none
  | .pick c a b => match ev c, ev a, ev b with
    | some c, some a, some b => match evPick c a b with
      | some v => some (Eff.pure v)
      | none => none
    | _, _, _ => none
  | .alloc t => evAlloc E.T nm t
  | .box t x => match ev x with
    | some v => some (evBox nm t v)
    | none => none
  | .load t x => match ev x with
    | some v => evLd E.T rd t v
    | none => none
  | .store t x y => match ev x, ev y with
    | some v, some u => evSt E.T rd t v u
    | _, _ => none
  | .binOp op t x y _ => match ev x, ev y with
    | some v, some u => match evBin E.T E.F op t x y v u with
      | some (r, p) => some (Eff.pureO r p)
      | none => none
    | _, _ => none
  | .unOp op _ x => match ev x with
    | some v => match evUn op v with
      | some (r, p) => some (Eff.pureO r p)
      | none => none
    | none => none
  | .convert s d x => match ev x with
    | some v => match evConv E.T s d v with
      | some (r, p) => some (Eff.pureO r p)
      | none => none
    | none => none
  | .makeInterface t x => match ev x with
    | some v => evMakeIface E.T t v
    | none => none
  | .makeFunc fn first captured => match evL ev first.toList, evL ev captured.toList with
    | some a, some c => some (Eff.pure (.fn fn a c))
    | _, _ => none
  | .slice t x lo hi mx => match ev x, evO ev lo, evO ev hi, evO ev mx with
    | some v, some l, some h, some m => match evSlice E.T t v l h m with
      | some e => some e
      | none => evSliceC E.T rd t v l h m
    | _, _, _, _ => none
  | .fieldAddr s x i => match ev x with
    | some v => evFieldAddr E.T rd s v i
    | none => none
  | .field s x i => match ev x with
    | some v => evField E.T s v i
    | none => none
  | .indexAddr t x i => match ev x, ev i with
    | some v, some u => evIndexAddr E.T rd t v u
    | _, _ => none
  | .build t parts => match evParts ev parts.toList with
    | some ps => evBuild E.T t ps
    | none => none
  | .buildSlice t len parts => match evParts ev parts.toList with
    | some ps => evBuildSlice E.T nm t len ps
    | none => none
  | .typeAssert x _ asserted ok => match ev x with
    | some v => evAssert v asserted E.T ok
    | none => none
  | .extract x i => match ev x with
    | some v => evExtract v i
    | none => none
  | .call c => evCallB E ev rd nm c
  | _ => none

section
variable {P : Program} {W0 : World} {Fr : Nat → Prop} {U : Nm → Prop} {H : Heap} {ρ : Rho} {w : World} {nm : Nm}

theorem evOp_sound {E : Env} (hE : EnvOk P E) (hH : HSat W0 Fr U H ρ w) (hn : ¬ U nm) {ev : Operand → Option SV} {a : Act} (hev : ∀ x v, ev x = some v → a.eval x = v.den ρ ∧ v.bd U)
    (hc : ∀ c v, ev (.const c) = some v → c = v.den ρ) {o : Oper} {e : Eff} (h : evOp E ev (look H) nm o.op = some e) (ho : okP e.obl) :
    Done W0 Fr U H ρ nm e ((execOp a.eval o).run P w) := by
  obtain ⟨dst, op, ty', pos, after, guard⟩ := o
  simp only at h
  cases op <;> simp only [evOp, reduceCtorEq] at h
  case move x =>
    split at h
    · rename_i v hv
      simp only [Option.some.injEq] at h; subst h
      obtain ⟨h1, h2⟩ := hev _ _ hv
      exact Done.same hH h2 (by simp [execOp, h1])
    · cases h
  case assign x =>
    split at h
    · rename_i v hv
      simp only [Option.some.injEq] at h; subst h
      obtain ⟨h1, h2⟩ := hev _ _ hv
      exact Done.same hH h2 (by simp [execOp, h1])
    · cases h
  case pick c x y =>
    split at h
    · rename_i c' x' y' hc' hx' hy'
      split at h
      · rename_i v hv
        simp only [Option.some.injEq] at h; subst h
        obtain ⟨h1, h2⟩ := hev _ _ hc'
        obtain ⟨h3, h4⟩ := hev _ _ hx'
        obtain ⟨h5, h6⟩ := hev _ _ hy'
        obtain ⟨p, hp, hv1, hv2⟩ := evPick_sound (ρ := ρ) hv h4 h6
        exact Done.same hH hv2 (by simp [execOp, h1, h3, h5, hp, asBool, hv1])
      · cases h
    · cases h
  case alloc t => exact evAlloc_sound hE.T hH hn h
  case box t x =>
    split at h
    · rename_i v hv
      simp only [Option.some.injEq] at h; subst h
      obtain ⟨h1, h2⟩ := hev _ _ hv
      have := evBox_sound (P := P) (t := t) hH hn h2
      simpa only [execOp, h1] using this
    · cases h
  case load t x =>
    split at h
    · rename_i v hv
      obtain ⟨h1, h2⟩ := hev _ _ hv
      have := evLd_sound (nm := nm) hE.T hH h ho
      simpa only [execOp, h1] using this
    · cases h
  case store t x y =>
    split at h
    · rename_i v u hv hu
      obtain ⟨h1, h2⟩ := hev _ _ hv
      obtain ⟨h3, h4⟩ := hev _ _ hu
      have := evSt_sound (nm := nm) hE.T hH h4 h ho
      simpa only [execOp, h1, h3] using this
    · cases h
  case binOp op t x y yt =>
    split at h
    · rename_i v u hv hu
      split at h
      · rename_i r p hr
        simp only [Option.some.injEq] at h; subst h
        obtain ⟨h1, h2⟩ := hev _ _ hv
        obtain ⟨h3, h4⟩ := hev _ _ hu
        obtain ⟨h5, h6⟩ := evBin_sound w ρ hE.T hE.F hr ho
          (fun hx => by cases x with | const c => rw [hc _ _ hv] | _ => simp [isConst] at hx)
          (fun hy => by cases y with | const c => rw [hc _ _ hu] | _ => simp [isConst] at hy)
        refine Done.same hH (SV.bd_closed U _ h6) ?_
        simp only [execOp, h1, h3]
        rw [Sem.run_bind, h5]
        rfl
      · cases h
    · cases h
  case unOp op t x =>
    split at h
    · rename_i v hv
      split at h
      · rename_i r p hr
        simp only [Option.some.injEq] at h; subst h
        obtain ⟨h1, h2⟩ := hev _ _ hv
        obtain ⟨h5, h6⟩ := evUn_sound (P := P) w ρ hr
        refine Done.same hH (SV.bd_closed U _ h6) ?_
        simp [execOp, h1, h5]
      · cases h
    · cases h
  case convert s d x =>
    split at h
    · rename_i v hv
      split at h
      · rename_i r p hr
        simp only [Option.some.injEq] at h; subst h
        obtain ⟨h1, h2⟩ := hev _ _ hv
        obtain ⟨h5, h6⟩ := evConv_sound hE.T w ρ hr ho
        refine Done.same hH (SV.bd_closed U _ h6) ?_
        simp [execOp, h1, h5]
      · cases h
    · cases h
  case makeInterface t x =>
    split at h
    · rename_i v hv
      obtain ⟨h1, h2⟩ := hev _ _ hv
      have := evMakeIface_sound (nm := nm) hE.T hH h2 h
      simpa only [execOp, h1] using this
    · cases h
  case makeFunc fn first captured =>
    split at h
    · rename_i xs ys hxs hys
      simp only [Option.some.injEq] at h; subst h
      obtain ⟨h1, h2⟩ := evL_sound hev hxs
      obtain ⟨h3, h4⟩ := evL_sound hev hys
      refine Done.same hH (v := .fn fn xs ys) (by simp [SV.bd, h2, h4]) ?_
      have e1 : first.map a.eval = (denL ρ xs).toArray := by rw [← h1]; apply Array.ext'; simp
      have e2 : captured.map a.eval = (denL ρ ys).toArray := by rw [← h3]; apply Array.ext'; simp
      simp [execOp, Instr.makeFunc, SV.den, e1, e2]
    · cases h
  case slice t x lo hi mx =>
    split at h
    · rename_i v l hh m hv hl hhi hm
      obtain ⟨h1, h2⟩ := hev _ _ hv
      have : Done W0 Fr U H ρ nm e ((do pure (.value (← Instr.sliceAt t (v.den ρ) (l.map (SV.den ρ)) (hh.map (SV.den ρ)) (m.map (SV.den ρ)))) : Sem Next).run P w) := by
        split at h
        · rename_i e' he
          simp only [Option.some.injEq] at h
          subst h
          exact evSlice_sound (nm := nm) hE.T hH h2 he ho
        · exact evSliceC_sound (nm := nm) hE.T hH h2 h ho
      rw [← evO_sound hev hl, ← evO_sound hev hhi, ← evO_sound hev hm] at this
      simpa only [execOp, h1] using this
    · cases h
  case fieldAddr s x i =>
    split at h
    · rename_i v hv
      obtain ⟨h1, h2⟩ := hev _ _ hv
      have := evFieldAddr_sound (nm := nm) hE.T hH h2 h ho
      simpa only [execOp, h1] using this
    · cases h
  case field s x i =>
    split at h
    · rename_i v hv
      obtain ⟨h1, h2⟩ := hev _ _ hv
      have := evField_sound (nm := nm) hE.T hH h2 h
      simpa only [execOp, h1] using this
    · cases h
  case indexAddr t x i =>
    split at h
    · rename_i v u hv hu
      obtain ⟨h1, h2⟩ := hev _ _ hv
      obtain ⟨h3, h4⟩ := hev _ _ hu
      have := evIndexAddr_sound (nm := nm) hE.T hH h2 h ho
      simpa only [execOp, h1, h3] using this
    · cases h
  case build t parts =>
    split at h
    · rename_i ps hps
      obtain ⟨h1, h2⟩ := evParts_sound hev hps
      have := evBuild_sound (nm := nm) hE.T hH h2 h
      rw [← h1] at this
      have e1 : (parts.map fun p => (p.1, a.eval p.2)) = (parts.toList.map fun p => (p.1, a.eval p.2)).toArray := by apply Array.ext'; simp
      simp only [execOp]
      rw [show (parts.map fun (i, x) => (i, a.eval x)) = (parts.map fun p => (p.1, a.eval p.2)) from rfl, e1]
      exact this
    · cases h
  case buildSlice t len parts =>
    split at h
    · rename_i ps hps
      obtain ⟨h1, h2⟩ := evParts_sound hev hps
      have := evBuildSlice_sound (nm := nm) hE.T hH hn h2 h
      rw [← h1] at this
      have e1 : (parts.map fun p => (p.1, a.eval p.2)) = (parts.toList.map fun p => (p.1, a.eval p.2)).toArray := by apply Array.ext'; simp
      simp only [execOp]
      rw [show (parts.map fun (i, x) => (i, a.eval x)) = (parts.map fun p => (p.1, a.eval p.2)) from rfl, e1]
      exact this
    · cases h
  case typeAssert x t asserted ok =>
    split at h
    · rename_i v hv
      obtain ⟨h1, h2⟩ := hev _ _ hv
      have := evAssert_sound (nm := nm) (xt := t) hE.T hH h2 h
      simpa only [execOp, h1] using this
    · cases h
  case extract x i =>
    split at h
    · rename_i v hv
      obtain ⟨h1, h2⟩ := hev _ _ hv
      have := evExtract_sound (P := P) (nm := nm) hH h2 h
      simpa only [execOp, h1] using this
    · cases h
  case call c =>
    unfold evCallB at h
    split at h
    · rename_i hb
      split at h
      · rename_i t t' hat
        split at h
        · rename_i htt
          have := Nat.eq_of_beq_eq_true htt
          subst this
          split at h
          · rename_i s x hvs
            obtain ⟨h1, h2⟩ := evL_sound hev hvs
            have e1 : c.args.map a.eval = (denL ρ [s, x]).toArray := by rw [← h1]; apply Array.ext'; simp
            have e2 : c.argTypes = #[t, t] := by apply Array.ext'; simpa using hat
            have := evAppend_sound (nm := nm) hE.T hH hn h ho ty'
            simp only [execOp, resolve, hb, Sem.run_bind, Sem.run_pure, Result.andThen_ok, invoke, e1, e2, builtin]
            simp only [Sem.run_bind, Sem.run_pure] at this
            exact this
          · cases h
        · cases h
      · cases h
    · rename_i b _ hb
      split at h
      · rename_i vs hvs
        split at h
        · rename_i v hv
          simp only [Option.some.injEq] at h; subst h
          obtain ⟨h1, h2⟩ := evL_sound hev hvs
          obtain ⟨h3, h4⟩ := evBuiltin_sound hE.T w ρ hv ty' (c.args.map fun | .const _ => true | _ => false)
          refine Done.same hH (SV.bd_closed U _ h4) ?_
          have e1 : c.args.map a.eval = (denL ρ vs).toArray := by rw [← h1]; apply Array.ext'; simp
          simp only [execOp, resolve, hb, Sem.run_bind, Sem.run_pure, Result.andThen_ok, invoke, e1]
          exact h3
        · cases h
      · cases h
    · cases h

end
end Go.Sx
