/- Parts of a proof, in order: what each says stands at its head. No conditions. -/
import Derived.Scope
import Derived.Orders
import Derived.RegionTactic
import Derived.Test.YtfhkmkhcofodmaaGreatProg
import Derived.KernelRfl
import Derived.Test.YtfhkmkhcofodmaaGreatFM1
namespace Go.Sx
open Go.RowKit
structure Env where
 T : Tys
 F : Flats
structure EnvOk (P : Program) (E : Env) : Prop where
 T : TysOk P E.T
 F : FlatsOk P E.F
def evL (ev : Operand → Option SV) : List Operand → Option (List SV)
 | [] => some []
 | x :: r => match ev x with
   | some v => match evL ev r with
     | some vs => some (v :: vs)
     | none => none
   | none => none
theorem evL_sound {U : Nm → Prop} {ρ : Rho} {ev : Operand → Option SV} {a : Act} (hev : ∀ x v, ev x = some v → a.eval x = v.den ρ ∧ v.bd U) : ∀ {xs : List Operand} {vs : List SV}, evL ev xs = some vs →
   xs.map a.eval = denL ρ vs ∧ bdL U vs
 | [], vs, h => by simp only [evL, Option.some.injEq] at h; subst h; simp [denL, bdL]
 | x :: r, vs, h => by
   simp only [evL] at h
   split at h
   · rename_i v hv
     split at h
     · rename_i qs hqs
       simp only [Option.some.injEq] at h
       subst h
       obtain ⟨h1, h2⟩ := evL_sound hev hqs
       obtain ⟨h3, h4⟩ := hev x v hv
       exact ⟨by simp [denL, h3, h1], by simp [bdL, h4, h2]⟩
     · cases h
   · cases h
def evO (ev : Operand → Option SV) : Option Operand → Option (Option SV)
 | none => some none
 | some x => match ev x with
   | some v => some (some v)
   | none => none
theorem evO_sound {U : Nm → Prop} {ρ : Rho} {ev : Operand → Option SV} {a : Act} (hev : ∀ x v, ev x = some v → a.eval x = v.den ρ ∧ v.bd U) {x : Option Operand} {v : Option SV} (h : evO ev x = some v) :
   x.map a.eval = v.map (SV.den ρ) := by
 cases x with
 | none => simp only [evO, Option.some.injEq] at h; subst h; rfl
 | some x =>
   simp only [evO] at h
   split at h
   · rename_i u hu
     simp only [Option.some.injEq] at h
     subst h
     simp [(hev x u hu).1]
   · cases h
def evPick (c a b : SV) : Option SV :=
 match c with
 | .tt => some a
 | .ff => some b
 | .bool p => match a.toB, b.toB with
   | some x, some y => some (.bool (cond p x y))
   | _, _ => none
 | _ => none
theorem evPick_sound {ρ : Rho} {U : Nm → Prop} {c a b v : SV} (h : evPick c a b = some v) (ha : a.bd U) (hb : b.bd U) :
   ∃ p : Bool, c.den ρ = .bool p ∧ v.den ρ = (if p then a.den ρ else b.den ρ) ∧ v.bd U := by
 unfold evPick at h
 split at h
 · simp only [Option.some.injEq] at h; subst h; exact ⟨true, rfl, rfl, ha⟩
 · simp only [Option.some.injEq] at h; subst h; exact ⟨false, rfl, rfl, hb⟩
 · rename_i p
   split at h
   · rename_i x y hx hy
     simp only [Option.some.injEq] at h
     subst h
     refine ⟨p, rfl, ?_, trivial⟩
     rw [SV.toB_den hx, SV.toB_den hy]
     cases p <;> rfl
   · cases h
 · cases h
def evBuiltin (T : Tys) (b : Builtin) (argTypes : List Nat) (vs : List SV) : Option SV :=
 match b, argTypes, vs with
 | .len, [t], [x] => evLen T t x
 | .min, _, [x, y] => evMin2 false x y
 | .max, _, [x, y] => evMin2 true x y
 | _, _, _ => none
def evCallB (E : Env) (ev : Operand → Option SV) (rd : Nm → Option Ob) (nm : Nm) (c : Call) : Option Eff :=
 match c.callee with
 | .builtin .append => match c.argTypes.toList with
   | [t, t'] => match Nat.beq t t' with
     | true => match evL ev c.args.toList with
       | some [s, x] => evAppend E.T rd nm t s x
       | _ => none
     | false => none
   | _ => none
 | .builtin .copy => match c.argTypes.toList with
   | [t, t'] => match Nat.beq t t' with
     | true => match evL ev c.args.toList with
       | some [d, x] => evCopy E.T rd t d x
       | _ => none
     | false => none
   | _ => none
 | .builtin b => match evL ev c.args.toList with
   | some vs => match evBuiltin E.T b c.argTypes.toList vs with
     | some v => some (Eff.pure v)
     | none => none
   | none => none
 | _ => none
theorem evBuiltin_sound {P : Program} {T : Tys} (hT : TysOk P T) (w : World) (ρ : Rho) {b : Builtin} {ats : List Nat} {vs : List SV} {v : SV} (h : evBuiltin T b ats vs = some v) (ty' : Nat) (cs : Array Bool) :
   (builtin b ats.toArray ty' cs (denL ρ vs).toArray).run P w = .ok (.value (v.den ρ)) w ∧ v.closed = true := by
 unfold evBuiltin at h
 split at h
 · obtain ⟨h1, h2⟩ := evLen_sound (w := w) (ρ := ρ) hT h ty'
   exact ⟨by simp [builtin, denL, h1], h2⟩
 · obtain ⟨h1, h2⟩ := min2_sound (P := P) w ρ h
   simp only [Bool.false_eq_true, if_false] at h1
   refine ⟨?_, h2⟩
   simp only [builtin, Sem.run_bind, denL]
   rw [show Builtin.min_ ats.toArray ty' = Builtin.min_ #[] 0 from rfl]
   rename_i x y
   rw [show ([x.den ρ, y.den ρ].toArray) = #[x.den ρ, y.den ρ] from rfl, h1]
   rfl
 · obtain ⟨h1, h2⟩ := min2_sound (P := P) w ρ h
   simp only [if_true] at h1
   refine ⟨?_, h2⟩
   simp only [builtin, Sem.run_bind, denL]
   rw [show Builtin.max_ ats.toArray ty' = Builtin.max_ #[] 0 from rfl]
   rename_i x y
   rw [show ([x.den ρ, y.den ρ].toArray) = #[x.den ρ, y.den ρ] from rfl, h1]
   rfl
 · cases h
def evOp (E : Env) (ev : Operand → Option SV) (rd : Nm → Option Ob) (nm : Nm) (o : Op) : Option Eff :=
 match o with
 | .move x => match ev x with
   | some v => some (Eff.pure v)
   | none => none
 | .assign x => match ev x with
   | some v => some (Eff.pure v)
   | none => none
 | .pick c a b => match ev c, ev a, ev b with
   | some c, some a, some b => match evPick c a b with
     | some v => some (Eff.pure v)
     | none => none
   | _, _, _ => none
 | .alloc t => evAlloc E.T nm t
 | .box t x => match ev x with
   | some v => some (evBox nm t v)
   | none => none
 | .load t x => match ev x with
   | some v => evLd E.T rd t v
   | none => none
 | .store t x y => match ev x, ev y with
   | some v, some u => evSt E.T rd t v u
   | _, _ => none
 | .binOp op t x y _ => match ev x, ev y with
   | some v, some u => match evBin E.T E.F op t x y v u with
     | some (r, p) => some (Eff.pureO r p)
     | none => evPtrNil E.T rd op t v u
   | _, _ => none
 | .nilCheck x => match ev x with
   | some v => evNilCheck E.T rd v
   | none => none
 | .makeSlice t l c => match ev l, ev c with
   | some l, some c => evMakeSlice E.T nm t l c
   | _, _ => none
 | .unOp op _ x => match ev x with
   | some v => match evUn op v with
     | some (r, p) => some (Eff.pureO r p)
     | none => none
   | none => none
 | .convert s d x => match ev x with
   | some v => match evConv E.T s d v with
     | some (r, p) => some (Eff.pureO r p)
     | none => none
   | none => none
 | .makeInterface t x => match ev x with
   | some v => evMakeIface E.T t v
   | none => none
 | .makeFunc fn first captured => match evL ev first.toList, evL ev captured.toList with
   | some a, some c => some (Eff.pure (.fn fn a c))
   | _, _ => none
 | .slice t x lo hi mx => match ev x, evO ev lo, evO ev hi, evO ev mx with
   | some v, some l, some h, some m => match evSlice E.T t v l h m with
     | some e => some e
     | none => evSliceC E.T rd t v l h m
   | _, _, _, _ => none
 | .fieldAddr s x i => match ev x with
   | some v => evFieldAddr E.T rd s v i
   | none => none
 | .field s x i => match ev x with
   | some v => evField E.T s v i
   | none => none
 | .indexAddr t x i => match ev x, ev i with
   | some v, some u => evIndexAddr E.T rd t v u
   | _, _ => none
 | .build t parts => match evParts ev parts.toList with
   | some ps => evBuild E.T t ps
   | none => none
 | .buildSlice t len parts => match evParts ev parts.toList with
   | some ps => evBuildSlice E.T nm t len ps
   | none => none
 | .typeAssert x _ asserted ok => match ev x with
   | some v => match evAssert v asserted E.T ok with
     | some e => some e
     | none => evAssertNo v asserted E.T ok
   | none => none
 | .extract x i => match ev x with
   | some v => evExtract v i
   | none => none
 | .call c => evCallB E ev rd nm c
 | _ => none
section
variable {P : Program} {W0 : World} {Fr : Nat → Prop} {U : Nm → Prop} {H : Heap} {ρ : Rho} {w : World} {nm : Nm}
theorem evOp_sound {E : Env} (hE : EnvOk P E) (hH : HSat W0 Fr U H ρ w) (hn : ¬ U nm) {ev : Operand → Option SV} {a : Act} (hev : ∀ x v, ev x = some v → a.eval x = v.den ρ ∧ v.bd U)
   (hc : ∀ c v, ev (.const c) = some v → c = v.den ρ) {o : Oper} {e : Eff} (h : evOp E ev (look H) nm o.op = some e) (ho : okP e.obl) :
   Done W0 Fr U H ρ nm e ((execOp a.eval o).run P w) := by
 obtain ⟨dst, op, ty', pos, after, guard⟩ := o
 simp only at h
 cases op <;> simp only [evOp, reduceCtorEq] at h
 case move x =>
   split at h
   · rename_i v hv
     simp only [Option.some.injEq] at h; subst h
     obtain ⟨h1, h2⟩ := hev _ _ hv
     exact Done.same hH h2 (by simp [execOp, h1])
   · cases h
 case assign x =>
   split at h
   · rename_i v hv
     simp only [Option.some.injEq] at h; subst h
     obtain ⟨h1, h2⟩ := hev _ _ hv
     exact Done.same hH h2 (by simp [execOp, h1])
   · cases h
 case pick c x y =>
   split at h
   · rename_i c' x' y' hc' hx' hy'
     split at h
     · rename_i v hv
       simp only [Option.some.injEq] at h; subst h
       obtain ⟨h1, h2⟩ := hev _ _ hc'
       obtain ⟨h3, h4⟩ := hev _ _ hx'
       obtain ⟨h5, h6⟩ := hev _ _ hy'
       obtain ⟨p, hp, hv1, hv2⟩ := evPick_sound (ρ := ρ) hv h4 h6
       exact Done.same hH hv2 (by simp [execOp, h1, h3, h5, hp, asBool, hv1])
     · cases h
   · cases h
 case alloc t => exact evAlloc_sound hE.T hH hn h
 case box t x =>
   split at h
   · rename_i v hv
     simp only [Option.some.injEq] at h; subst h
     obtain ⟨h1, h2⟩ := hev _ _ hv
     have := evBox_sound (P := P) (t := t) hH hn h2
     simpa only [execOp, h1] using this
   · cases h
 case load t x =>
   split at h
   · rename_i v hv
     obtain ⟨h1, h2⟩ := hev _ _ hv
     have := evLd_sound (nm := nm) hE.T hH h ho
     simpa only [execOp, h1] using this
   · cases h
 case store t x y =>
   split at h
   · rename_i v u hv hu
     obtain ⟨h1, h2⟩ := hev _ _ hv
     obtain ⟨h3, h4⟩ := hev _ _ hu
     have := evSt_sound (nm := nm) hE.T hH h4 h ho
     simpa only [execOp, h1, h3] using this
   · cases h
 case binOp op t x y yt =>
   split at h
   · rename_i v u hv hu
     split at h
     · rename_i r p hr
       simp only [Option.some.injEq] at h; subst h
       obtain ⟨h1, h2⟩ := hev _ _ hv
       obtain ⟨h3, h4⟩ := hev _ _ hu
       obtain ⟨h5, h6⟩ := evBin_sound w ρ hE.T hE.F hr ho
         (fun hx => by cases x with | const c => rw [hc _ _ hv] | _ => simp [isConst] at hx)
         (fun hy => by cases y with | const c => rw [hc _ _ hu] | _ => simp [isConst] at hy)
       refine Done.same hH (SV.bd_closed U _ h6) ?_
       simp only [execOp, h1, h3]
       rw [Sem.run_bind, h5]
       rfl
     · obtain ⟨h1, h2⟩ := hev _ _ hv
       obtain ⟨h3, h4⟩ := hev _ _ hu
       have := evPtrNil_sound (P := P) (nm := nm) (xo := x) (yo := y) hE.T hH h ho
       simp only [execOp, h1, h3]
       exact this
   · cases h
 case nilCheck x =>
   split at h
   · rename_i v hv
     obtain ⟨h1, h2⟩ := hev _ _ hv
     exact evNilCheck_sound hE.T hH h2 h ho rfl h1
   · cases h
 case makeSlice t l c =>
   split at h
   · rename_i l' c' hl hc'
     obtain ⟨h1, h2⟩ := hev _ _ hl
     obtain ⟨h3, h4⟩ := hev _ _ hc'
     have := evMakeSlice_sound (nm := nm) hE.T hH hn h ho
     simpa only [execOp, h1, h3] using this
   · cases h
 case unOp op t x =>
   split at h
   · rename_i v hv
     split at h
     · rename_i r p hr
       simp only [Option.some.injEq] at h; subst h
       obtain ⟨h1, h2⟩ := hev _ _ hv
       obtain ⟨h5, h6⟩ := evUn_sound (P := P) w ρ hr
       refine Done.same hH (SV.bd_closed U _ h6) ?_
       simp [execOp, h1, h5]
     · cases h
   · cases h
 case convert s d x =>
   split at h
   · rename_i v hv
     split at h
     · rename_i r p hr
       simp only [Option.some.injEq] at h; subst h
       obtain ⟨h1, h2⟩ := hev _ _ hv
       obtain ⟨h5, h6⟩ := evConv_sound hE.T w ρ hr ho
       refine Done.same hH (SV.bd_closed U _ h6) ?_
       simp [execOp, h1, h5]
     · cases h
   · cases h
 case makeInterface t x =>
   split at h
   · rename_i v hv
     obtain ⟨h1, h2⟩ := hev _ _ hv
     have := evMakeIface_sound (nm := nm) hE.T hH h2 h
     simpa only [execOp, h1] using this
   · cases h
 case makeFunc fn first captured =>
   split at h
   · rename_i xs ys hxs hys
     simp only [Option.some.injEq] at h; subst h
     obtain ⟨h1, h2⟩ := evL_sound hev hxs
     obtain ⟨h3, h4⟩ := evL_sound hev hys
     refine Done.same hH (v := .fn fn xs ys) (by simp [SV.bd, h2, h4]) ?_
     have e1 : first.map a.eval = (denL ρ xs).toArray := by rw [← h1]; apply Array.ext'; simp
     have e2 : captured.map a.eval = (denL ρ ys).toArray := by rw [← h3]; apply Array.ext'; simp
     simp [execOp, Instr.makeFunc, SV.den, e1, e2]
   · cases h
 case slice t x lo hi mx =>
   split at h
   · rename_i v l hh m hv hl hhi hm
     obtain ⟨h1, h2⟩ := hev _ _ hv
     have : Done W0 Fr U H ρ nm e ((do pure (.value (← Instr.sliceAt t (v.den ρ) (l.map (SV.den ρ)) (hh.map (SV.den ρ)) (m.map (SV.den ρ)))) : Sem Next).run P w) := by
       split at h
       · rename_i e' he
         simp only [Option.some.injEq] at h
         subst h
         exact evSlice_sound (nm := nm) hE.T hH h2 he ho
       · exact evSliceC_sound (nm := nm) hE.T hH h2 h ho
     rw [← evO_sound hev hl, ← evO_sound hev hhi, ← evO_sound hev hm] at this
     simpa only [execOp, h1] using this
   · cases h
 case fieldAddr s x i =>
   split at h
   · rename_i v hv
     obtain ⟨h1, h2⟩ := hev _ _ hv
     have := evFieldAddr_sound (nm := nm) hE.T hH h2 h ho
     simpa only [execOp, h1] using this
   · cases h
 case field s x i =>
   split at h
   · rename_i v hv
     obtain ⟨h1, h2⟩ := hev _ _ hv
     have := evField_sound (nm := nm) hE.T hH h2 h
     simpa only [execOp, h1] using this
   · cases h
 case indexAddr t x i =>
   split at h
   · rename_i v u hv hu
     obtain ⟨h1, h2⟩ := hev _ _ hv
     obtain ⟨h3, h4⟩ := hev _ _ hu
     have := evIndexAddr_sound (nm := nm) hE.T hH h2 h ho
     simpa only [execOp, h1, h3] using this
   · cases h
 case build t parts =>
   split at h
   · rename_i ps hps
     obtain ⟨h1, h2⟩ := evParts_sound hev hps
     have := evBuild_sound (nm := nm) hE.T hH h2 h
     rw [← h1] at this
     have e1 : (parts.map fun p => (p.1, a.eval p.2)) = (parts.toList.map fun p => (p.1, a.eval p.2)).toArray := by apply Array.ext'; simp
     simp only [execOp]
     rw [show (parts.map fun (i, x) => (i, a.eval x)) = (parts.map fun p => (p.1, a.eval p.2)) from rfl, e1]
     exact this
   · cases h
 case buildSlice t len parts =>
   split at h
   · rename_i ps hps
     obtain ⟨h1, h2⟩ := evParts_sound hev hps
     have := evBuildSlice_sound (nm := nm) hE.T hH hn h2 h
     rw [← h1] at this
     have e1 : (parts.map fun p => (p.1, a.eval p.2)) = (parts.toList.map fun p => (p.1, a.eval p.2)).toArray := by apply Array.ext'; simp
     simp only [execOp]
     rw [show (parts.map fun (i, x) => (i, a.eval x)) = (parts.map fun p => (p.1, a.eval p.2)) from rfl, e1]
     exact this
   · cases h
 case typeAssert x t asserted ok =>
   split at h
   · rename_i v hv
     obtain ⟨h1, h2⟩ := hev _ _ hv
     split at h
     · rename_i e' he
       simp only [Option.some.injEq] at h
       subst h
       have := evAssert_sound (nm := nm) (xt := t) hE.T hH h2 he
       simpa only [execOp, h1] using this
     · have := evAssertNo_sound (nm := nm) (xt := t) hE.T hH h2 h
       simpa only [execOp, h1] using this
   · cases h
 case extract x i =>
   split at h
   · rename_i v hv
     obtain ⟨h1, h2⟩ := hev _ _ hv
     have := evExtract_sound (P := P) (nm := nm) hH h2 h
     simpa only [execOp, h1] using this
   · cases h
 case call c =>
   unfold evCallB at h
   split at h
   · rename_i hb
     split at h
     · rename_i t t' hat
       split at h
       · rename_i htt
         have := Nat.eq_of_beq_eq_true htt
         subst this
         split at h
         · rename_i s x hvs
           obtain ⟨h1, h2⟩ := evL_sound hev hvs
           have e1 : c.args.map a.eval = (denL ρ [s, x]).toArray := by rw [← h1]; apply Array.ext'; simp
           have e2 : c.argTypes = #[t, t] := by apply Array.ext'; simpa using hat
           have := evAppend_sound (nm := nm) hE.T hH hn h ho ty'
           simp only [execOp, resolve, hb, Sem.run_bind, Sem.run_pure, Result.andThen_ok, invoke, e1, e2, builtin]
           simp only [Sem.run_bind, Sem.run_pure] at this
           exact this
         · cases h
       · cases h
     · cases h
   · rename_i hb
     split at h
     · rename_i t t' hat
       split at h
       · rename_i htt
         have := Nat.eq_of_beq_eq_true htt
         subst this
         split at h
         · rename_i s x hvs
           obtain ⟨h1, h2⟩ := evL_sound hev hvs
           have e1 : c.args.map a.eval = (denL ρ [s, x]).toArray := by rw [← h1]; apply Array.ext'; simp
           have e2 : c.argTypes = #[t, t] := by apply Array.ext'; simpa using hat
           have := evCopy_sound (nm := nm) hE.T hH h ho ty'
           simp only [execOp, resolve, hb, Sem.run_bind, Sem.run_pure, Result.andThen_ok, invoke, e1, e2, builtin]
           simp only [Sem.run_bind, Sem.run_pure] at this
           exact this
         · cases h
       · cases h
     · cases h
   · rename_i b _ _ hb
     split at h
     · rename_i vs hvs
       split at h
       · rename_i v hv
         simp only [Option.some.injEq] at h; subst h
         obtain ⟨h1, h2⟩ := evL_sound hev hvs
         obtain ⟨h3, h4⟩ := evBuiltin_sound hE.T w ρ hv ty' (c.args.map fun | .const _ => true | _ => false)
         refine Done.same hH (SV.bd_closed U _ h4) ?_
         have e1 : c.args.map a.eval = (denL ρ vs).toArray := by rw [← h1]; apply Array.ext'; simp
         simp only [execOp, resolve, hb, Sem.run_bind, Sem.run_pure, Result.andThen_ok, invoke, e1]
         exact h3
       · cases h
     · cases h
   · cases h
end
end Go.Sx

namespace Go.Sx
open Go.RowKit
structure St where
 nt : Nat
 sl : Slots
 H : Heap
 N : Nat
structure Sat (W0 : World) (Fr : Nat → Prop) (S : St) (ρ : Rho) (a : Act) (w : World) : Prop where
 h : HSat W0 Fr (· < S.N) S.H ρ w
 s : SSat (· < S.N) S.nt S.sl ρ a
abbrev Con := List SV → (Nm → Option Ob) → Nm → Option Eff
def FOk (P : Program) (f : Nat) : Prop := ∃ fn, P.funcs[f]? = some fn ∧ (fn.name == "runtime.NumGoroutine") = false ∧ fn.body.isNone = false
def CallsV (P : Program) (f : Nat) (args : Array Value) (w : World) (R : Ending → World → Prop) : Prop :=
 (FOk P f ∧ Calls P f args w R) ∨ ∃ v w', (callFunc f args).run P w = .ok (.value v) w' ∧ R (.returned v) w'
theorem CallsV.mono {P : Program} {f : Nat} {args : Array Value} {w : World} {R R' : Ending → World → Prop} (h : CallsV P f args w R) (hr : ∀ e w', R e w' → R' e w') : CallsV P f args w R' := by
 rcases h with ⟨h1, h2⟩ | ⟨v, w', h1, h2⟩
 · exact .inl ⟨h1, h2.mono hr⟩
 · exact .inr ⟨v, w', h1, hr _ _ h2⟩
structure ConOk (P : Program) (f : Nat) (c : Con) : Prop where
 calls : ∀ {W0 : World} {Fr : Nat → Prop} {U : Nm → Prop} {H : Heap} {ρ : Rho} {w : World} {nm : Nm} {args : List SV} {e : Eff},
   HSat W0 Fr U H ρ w → bdL U args → (∀ j, j < 12 → ¬ U (nm + j)) → c args (look H) nm = some e → okP e.obl →
   CallsV P f (denL ρ args).toArray w fun en w' => ∃ ρ', (∀ n, U n → ρ' n = ρ n) ∧ HSat W0 Fr (UU U nm) (e.wr ++ (e.news ++ H)) ρ' w' ∧
     ∃ v, e.val = some v ∧ v.bd (UU U nm) ∧ en = .returned (v.den ρ')
 loc : ∀ {args : List SV} {rd rd' : Nm → Option Ob} {nm : Nm} {e : Eff}, c args rd nm = some e → (∀ n ∈ e.rds, rd' n = rd n) → c args rd' nm = some e
abbrev Gam := List (Nat × Con)
def con : Gam → Nat → Option Con
 | [], _ => none
 | (m, v) :: r, n => match Nat.beq m n with
   | true => some v
   | false => con r n
def GamOk (P : Program) (Γ : Gam) : Prop := ∀ f c, con Γ f = some c → ConOk P f c
theorem GamOk.nil {P : Program} : GamOk P [] := fun _ _ h => by simp [con] at h
theorem GamOk.cons {P : Program} {f : Nat} {c : Con} {Γ : Gam} (h1 : ConOk P f c) (h2 : GamOk P Γ) : GamOk P ((f, c) :: Γ) := fun u ui h => by
 simp only [con] at h
 cases hb : Nat.beq f u
 · rw [hb] at h; exact h2 u ui h
 · rw [hb] at h
   have : f = u := Nat.eq_of_beq_eq_true hb
   subst this
   simp only [Option.some.injEq] at h
   subst h
   exact h1
abbrev PF := List SV → Option (SV × Option Prop)
def pureCon (F : PF) : Con := fun args _ _ => match F args with
 | some (v, p) => some (Eff.pureO v p)
 | none => none
def PureOk (P : Program) (f : Nat) (F : PF) : Prop :=
 ∀ args v p, F args = some (v, p) → okP p → v.closed = true ∧ ∀ (ρ : Rho) (w : World), CallsV P f (denL ρ args).toArray w fun e w' => e = .returned (v.den ρ) ∧ Below w.heap.size w w'
theorem ConOk.pure {P : Program} {f : Nat} {F : PF} (h : PureOk P f F) : ConOk P f (pureCon F) where
 calls := by
   intro W0 Fr U H ρ w nm args e hH hb hn hc ho
   unfold pureCon at hc
   split at hc
   · rename_i v p hv
     simp only [Option.some.injEq] at hc
     subst hc
     obtain ⟨h1, h2⟩ := h args v p hv ho
     refine (h2 ρ w).mono ?_
     rintro en w' ⟨rfl, hb'⟩
     exact ⟨ρ, fun _ _ => rfl, (hH.below hb').mono UU_of, v, rfl, SV.bd_closed _ v h1, rfl⟩
   · cases hc
 loc := fun h _ => h
structure Ctx where
 E : Env
 Γ : Gam
structure CtxOk (P : Program) (G : Ctx) : Prop where
 E : EnvOk P G.E
 Γ : GamOk P G.Γ
 mix : P.follows .mixedOrders = true
def recvOf (rd : Nm → Option Ob) (m : Mth) (v : SV) : Option (SV × List Nm) :=
 match m.off with
 | none => some (v, [])
 | some o => match v with
   | .ptr n i => match rd n with
     | some ⟨_, _, .cells (_ :: _), _⟩ => some (.ptr n (i + o), [n])
     | _ => none
   | _ => none
def evInv (T : Tys) (Γ : Gam) (rd : Nm → Option Ob) (nm : Nm) (name : String) (x : SV) (vs : List SV) : Option Eff :=
 match x with
 | .ifc t v => match ty T t with
   | some ti => match mfind ti.ms name with
     | some m => match recvOf rd m v with
       | some (v', rs) => match con Γ m.f with
         | some k => match k (v' :: vs) rd nm with
           | some e => some ⟨e.val, e.wr, e.news, rs ++ e.rds, e.obl⟩
           | none => none
         | none => none
       | none => none
     | none => none
   | none => none
 | _ => none
def evCallF (T : Tys) (Γ : Gam) (ev : Operand → Option SV) (rd : Nm → Option Ob) (nm : Nm) (c : Call) : Option Eff :=
 match c.callee with
 | .invoke x name => match ev x with
   | some v => match evL ev c.args.toList with
     | some vs => evInv T Γ rd nm name v vs
     | none => none
   | none => none
 | .value x => match ev x with
   | some (.fn (.func f) first captured) => match evL ev c.args.toList with
     | some vs => match con Γ f with
       | some k => k (first ++ (vs ++ captured)) rd nm
       | none => none
     | none => none
   | _ => none
 | _ => none
def evAny (G : Ctx) (ev : Operand → Option SV) (rd : Nm → Option Ob) (nm : Nm) (o : Op) : Option Eff :=
 match o with
 | .call c => match c.callee with
   | .builtin _ => evCallB G.E ev rd nm c
   | _ => evCallF G.E.T G.Γ ev rd nm c
 | o => evOp G.E ev rd nm o
theorem denL_append (ρ : Rho) : ∀ a b : List SV, denL ρ (a ++ b) = denL ρ a ++ denL ρ b
 | [], _ => rfl
 | x :: r, b => by simp [denL, denL_append ρ r b]
theorem bdL_append {U : Nm → Prop} {a b : List SV} (h : bdL U a) (h' : bdL U b) : bdL U (a ++ b) := by
 rw [bdL_iff] at *
 intro v hv
 rcases List.mem_append.1 hv with hv | hv
 · exact h v hv
 · exact h' v hv
section
variable {P : Program} {W0 : World} {Fr : Nat → Prop} {U : Nm → Prop} {H : Heap} {ρ : Rho} {w : World} {nm : Nm}
theorem evAny_sound {G : Ctx} (hG : CtxOk P G) (hH : HSat W0 Fr U H ρ w) (hn : ∀ j, j < 12 → ¬ U (nm + j)) {ev : Operand → Option SV} {a : Act} (hev : ∀ x v, ev x = some v → a.eval x = v.den ρ ∧ v.bd U)
   (hc : ∀ c v, ev (.const c) = some v → c = v.den ρ) {o : Oper} {e : Eff} (h : evAny G ev (look H) nm o.op = some e) (ho : okP e.obl)
   {next : Act → World → Prop} {Q : Exit → Act → World → Prop}
   (hk : ∀ ρ' w', (∀ n, U n → ρ' n = ρ n) → HSat W0 Fr (UU U nm) (e.wr ++ (e.news ++ H)) ρ' w' →
     (match e.val with
      | some v => v.bd (UU U nm) → next (a.put o.dst (v.den ρ')) w'
      | none => next (a.put o.dst undef) w')) : o.wp P a w next Q := by
 have plain : Done W0 Fr U H ρ nm e ((execOp a.eval o).run P w) → o.wp P a w next Q := by
   rintro ⟨ρ', w', h1, h2, h3⟩
   have h4 := hk ρ' w' h1 h2
   unfold Oper.wp
   split at h3
   · rename_i v hv
     obtain ⟨h5, h6⟩ := h3
     rw [h6]
     simp only [hv] at h4
     exact h4 h5
   · rename_i hv
     rw [h3]
     simp only [hv] at h4
     exact h4
 by_cases hcall : ∃ c, o.op = .call c
 · obtain ⟨c, hoc⟩ := hcall
   rw [hoc] at h
   simp only [evAny] at h
   split at h
   · rename_i b hb
     refine plain (evOp_sound hG.E hH (by simpa using hn 0 (by decide)) hev hc (e := e) ?_ ho)
     rw [hoc]
     exact h
   · unfold evCallF at h
     split at h
     · rename_i x name hx
       split at h
       · rename_i v hv
         split at h
         · rename_i vs hvs
           unfold evInv at h
           split at h
           · rename_i t u
             split at h
             · rename_i ti hti
               split at h
               · rename_i m hm
                 split at h
                 · rename_i v' rs hrecv
                   split at h
                   · rename_i k hk'
                     split at h
                     · rename_i e' he'
                       simp only [Option.some.injEq] at h
                       subst h
                       obtain ⟨h1, h2⟩ := hev _ _ hv
                       obtain ⟨h3, h4⟩ := evL_sound hev hvs
                       obtain ⟨hmem, hname⟩ := mfind_mem hm
                       have hmok := (hG.E.T t ti hti).ms m hmem
                       have hrv : v'.bd U ∧ (method (P.types.size + Made.depth) t (u.den ρ) name).run P w = .ok (m.f, v'.den ρ) w := by
                         unfold recvOf at hrecv
                         unfold MOk at hmok
                         split at hrecv
                         · rename_i hoff
                           simp only [Option.some.injEq, Prod.mk.injEq] at hrecv
                           obtain ⟨rfl, rfl⟩ := hrecv
                           rw [hoff, hname] at hmok
                           exact ⟨h2, hmok.1 _ _⟩
                         · rename_i o hoff
                           rw [hoff, hname] at hmok
                           split at hrecv
                           · rename_i n i
                             split at hrecv
                             · rename_i rw' el y l es hob
                               simp only [Option.some.injEq, Prod.mk.injEq] at hrecv
                               obtain ⟨rfl, rfl⟩ := hrecv
                               obtain ⟨b, off, cp, hρ⟩ := hH.there hob trivial
                               have e1 : (SV.ptr n i).den ρ = .pointer (some ⟨b, off + i, none⟩) := by simp [SV.den, Rho.addr, hρ]
                               have e2 : (SV.ptr n (i + o)).den ρ = .pointer (some ((⟨b, off + i, none⟩ : Addr).add o)) := by simp [SV.den, Rho.addr, hρ, Addr.add_lit, Nat.add_assoc]
                               rw [e1, e2]
                               exact ⟨h2, hmok _ _⟩
                             · cases hrecv
                           · cases hrecv
                       have hok := hG.Γ m.f k hk'
                       have hcalls := hok.calls hH (show bdL U (v' :: vs) from ⟨hrv.1, h4⟩) hn he' ho
                       have hrun : (execOp a.eval o).run P w = (callFunc m.f (denL ρ (v' :: vs)).toArray).run P w := by
                         have e1 : c.args.map a.eval = (denL ρ vs).toArray := by rw [← h3]; apply Array.ext'; simp
                         have e2 : ((#[Value.iface t (u.den ρ)] ++ (denL ρ vs).toArray)[0]? : Option Value) = some (Value.iface t (u.den ρ)) := by simp
                         have e3 : (#[Value.iface t (u.den ρ)] ++ (denL ρ vs).toArray).extract 1 (#[Value.iface t (u.den ρ)] ++ (denL ρ vs).toArray).size = (denL ρ vs).toArray := by
                           apply Array.ext'; simp
                         simp only [execOp, hoc, resolve, hx, h1, e1, SV.den, Sem.run_bind, Sem.run_pure, Result.andThen_ok, invoke, e2, callMethod, run_program, hrv.2]
                         rw [e3]
                         congr 2
                         simp [denL]
                       unfold Oper.wp
                       rw [hrun]
                       rcases hcalls with ⟨⟨fn, hfn, hname', hbody⟩, hcalls⟩ | ⟨v, w', hv, ρ', h5, h6, v', h7, h8, h10⟩
                       · have hcf : (callFunc m.f (denL ρ (v' :: vs)).toArray).run P w = .ok (.enter m.f (denL ρ (v' :: vs)).toArray) w := by
                           simp only [callFunc, Sem.run_bind, run_program, Result.andThen_ok, hfn, hname', hbody, Bool.false_eq_true, if_false, Sem.run_pure]
                         rw [hcf]
                         show Calls P m.f _ w _
                         refine hcalls.mono ?_
                         rintro en w' ⟨ρ', h5, h6, v, h7, h8, rfl⟩
                         have h9 := hk ρ' w' h5 h6
                         simp only [h7] at h9
                         exact h9 h8
                       · rw [hv]
                         have h9 := hk ρ' w' h5 h6
                         simp only [h7] at h9
                         injection h10 with h10
                         rw [h10]
                         exact h9 h8
                     · cases h
                   · cases h
                 · cases h
               · cases h
             · cases h
           · cases h
         · cases h
       · cases h
     · rename_i x hx
       split at h
       · rename_i f first captured hf
         split at h
         · rename_i vs hvs
           split at h
           · rename_i k hk'
             obtain ⟨h1, h2⟩ := hev _ _ hf
             obtain ⟨h3, h4⟩ := evL_sound hev hvs
             simp only [SV.bd] at h2
             have hok := hG.Γ f k hk'
             have hcalls := hok.calls hH (bdL_append h2.1 (bdL_append h4 h2.2)) hn h ho
             have hrun : (execOp a.eval o).run P w = (callFunc f (denL ρ (first ++ (vs ++ captured))).toArray).run P w := by
               have e1 : c.args.map a.eval = (denL ρ vs).toArray := by rw [← h3]; apply Array.ext'; simp
               simp only [execOp, hoc, resolve, hx, h1, e1, SV.den, Deferred.ofValue, Sem.run_bind, Sem.run_pure, Result.andThen_ok, invoke]
               congr 2
               rw [denL_append, denL_append]
               simp
             unfold Oper.wp
             rw [hrun]
             rcases hcalls with ⟨⟨fn, hfn, hname, hbody⟩, hcalls⟩ | ⟨v, w', hv, ρ', h5, h6, v', h7, h8, h10⟩
             · have hcf : (callFunc f (denL ρ (first ++ (vs ++ captured))).toArray).run P w = .ok (.enter f (denL ρ (first ++ (vs ++ captured))).toArray) w := by
                 simp only [callFunc, Sem.run_bind, run_program, Result.andThen_ok, hfn, hname, hbody, Bool.false_eq_true, if_false, Sem.run_pure]
               rw [hcf]
               show Calls P f _ w _
               refine hcalls.mono ?_
               rintro en w' ⟨ρ', h5, h6, v, h7, h8, rfl⟩
               have h9 := hk ρ' w' h5 h6
               simp only [h7] at h9
               exact h9 h8
             · rw [hv]
               have h9 := hk ρ' w' h5 h6
               simp only [h7] at h9
               injection h10 with h10
               rw [h10]
               exact h9 h8
           · cases h
         · cases h
       · cases h
     · cases h
 · have hop : evOp G.E ev (look H) nm o.op = some e := by
     unfold evAny at h
     split at h
     · rename_i c hoc
       exact absurd ⟨c, hoc⟩ hcall
     · exact h
   exact plain (evOp_sound hG.E hH (by simpa using hn 0 (by decide)) hev hc hop ho)
end
end Go.Sx

namespace Go.Sx
open Go.RowKit
section
variable {G : Ctx} {E : Env} {ev ev' : Operand → Option SV} {rd rd' : Nm → Option Ob} {nm : Nm} {e : Eff}
theorem evL_congr : ∀ {xs : List Operand}, (∀ x ∈ xs, ev' x = ev x) → evL ev' xs = evL ev xs
 | [], _ => rfl
 | x :: r, h => by
   simp only [evL, h x (by simp), evL_congr (xs := r) fun y hy => h y (by simp [hy])]
theorem evParts_congr : ∀ {xs : List (Nat × Operand)}, (∀ p ∈ xs, ev' p.2 = ev p.2) → evParts ev' xs = evParts ev xs
 | [], _ => rfl
 | (i, x) :: r, h => by
   have h1 : ev' x = ev x := h (i, x) (by simp)
   simp only [evParts, h1, evParts_congr (xs := r) fun y hy => h y (by simp [hy])]
theorem evO_congr {x : Option Operand} (h : ∀ y, x = some y → ev' y = ev y) : evO ev' x = evO ev x := by
 cases x with
 | none => rfl
 | some y => simp only [evO, h y rfl]
theorem evLd_loc {T : Tys} {t : Nat} {x : SV} (h : evLd T rd t x = some e) (hr : ∀ n ∈ e.rds, rd' n = rd n) : evLd T rd' t x = some e := by
 unfold evLd at *
 split at h
 · rename_i n i
   split at h
   · rename_i ti hti
     split at h
     · rename_i hs
       split at h
       · rename_i ob hob
         split at h
         · rename_i v p hv
           simp only [Option.some.injEq] at h; subst h
           simp only [hr n (by simp), hob, hv]
         · cases h
       · cases h
     · cases h
   · cases h
 · cases h
theorem evSt_loc {T : Tys} {t : Nat} {x v : SV} (h : evSt T rd t x v = some e) (hr : ∀ n ∈ e.rds, rd' n = rd n) : evSt T rd' t x v = some e := by
 unfold evSt at *
 split at h
 · rename_i n i
   split at h
   · rename_i ti hti
     split at h
     · rename_i hs
       split at h
       · rename_i hs2
         split at h
         · rename_i el c hob
           split at h
           · rename_i c' hc'
             simp only [Option.some.injEq] at h; subst h
             simp only [hr n (by simp), hob, hc']
           · cases h
         · cases h
       · cases h
     · cases h
   · cases h
 · cases h
theorem evFieldAddr_loc {T : Tys} {s : Nat} {x : SV} {i : Nat} (h : evFieldAddr T rd s x i = some e) (hr : ∀ n ∈ e.rds, rd' n = rd n) : evFieldAddr T rd' s x i = some e := by
 unfold evFieldAddr at *
 split at h
 · rename_i n off
   split at h
   · rename_i hti
     split at h
     · rename_i hf
       split at h
       · rename_i hte
         split at h
         · rename_i hs
           split at h
           · rename_i ob hob
             simp only [Option.some.injEq] at h; subst h
             simp only [hr n (by simp), hob]
           · cases h
         · cases h
       · cases h
     · cases h
   · cases h
 · cases h
theorem evSliceC_loc {T : Tys} {t : Nat} {x : SV} {lo hi mx : Option SV} (h : evSliceC T rd t x lo hi mx = some e) (hr : ∀ n ∈ e.rds, rd' n = rd n) : evSliceC T rd' t x lo hi mx = some e := by
 unfold evSliceC at *
 split at h
 · rename_i n len k i
   split at h
   · split at h
     · split at h
       · rename_i ob hob
         split at h
         · rename_i hf
           simp only [Option.some.injEq] at h; subst h
           simp only [hr n (by simp), hob, hf]
         · cases h
       · cases h
     · cases h
   · cases h
 · rename_i n off
   split at h
   · split at h
     · split at h
       · rename_i ob hob
         simp only [Option.some.injEq] at h; subst h
         simp only [hr n (by simp), hob]
       · cases h
     · cases h
   · cases h
 · cases h
theorem evIndexAddr_loc {T : Tys} {t : Nat} {x ix : SV} (h : evIndexAddr T rd t x ix = some e) (hr : ∀ n ∈ e.rds, rd' n = rd n) : evIndexAddr T rd' t x ix = some e := by
 unfold evIndexAddr at *
 split at h
 · split at h
   · rename_i n off
     split at h
     · rename_i hti
       split at h
       · rename_i hte
         split at h
         · rename_i ob hob
           simp only [Option.some.injEq] at h; subst h
           simp only [hr n (by simp), hob]
         · cases h
       · cases h
     · cases h
   · rename_i n off len cap
     split at h
     · rename_i hti
       split at h
       · rename_i hte
         split at h
         · rename_i ob hob
           simp only [Option.some.injEq] at h; subst h
           simp only [hr n (by simp), hob]
         · cases h
       · cases h
     · cases h
   · rename_i n len
     split at h
     · rename_i hti
       split at h
       · rename_i hte
         split at h
         · rename_i ob hob
           simp only [Option.some.injEq] at h; subst h
           simp only [hr n (by simp), hob]
         · cases h
       · cases h
     · cases h
   · cases h
 · cases h
theorem evSrc_loc {sz : Nat} {x : SV} {m : Nat} {vs : List SV} {mn : Nm} {p : Option Prop} (h : evSrc rd sz x = some (m, vs, mn, p)) (hr : rd' mn = rd mn) : evSrc rd' sz x = some (m, vs, mn, p) := by
 unfold evSrc at *
 split at h
 · split at h
   · rename_i ob hob
     split at h
     · rename_i us hus
       have hm := h
       simp only [Option.some.injEq, Prod.mk.injEq] at hm
       obtain ⟨_, _, rfl, _⟩ := hm
       simp only [hr, hob, hus]
       exact h
     · cases h
   · cases h
 · split at h
   · rename_i ob hob
     split at h
     · rename_i us hus
       have hm := h
       simp only [Option.some.injEq, Prod.mk.injEq] at hm
       obtain ⟨_, _, rfl, _⟩ := hm
       simp only [hr, hob, hus]
       exact h
     · cases h
   · cases h
 · cases h
theorem evAppend_loc {T : Tys} {t : Nat} {s x : SV} (h : evAppend T rd nm t s x = some e) (hr : ∀ n ∈ e.rds, rd' n = rd n) : evAppend T rd' nm t s x = some e := by
 unfold evAppend at *
 split at h
 · split at h
   · rename_i te hte
     split at h
     · rename_i m vs mn p hsrc
       split at h
       · rename_i hb
         split at h
         · split at h
           · rename_i hf
             have hm := h
             simp only [Option.some.injEq] at hm
             subst hm
             simp only [evSrc_loc hsrc (hr mn (by simp)), hb, hf]
           · cases h
         · rename_i n len
           split at h
           · rename_i el c es hob
             split at h
             · rename_i hbe
               split at h
               · rename_i c' hc'
                 have hm := h
                 simp only [Option.some.injEq] at hm
                 subst hm
                 simp only [evSrc_loc hsrc (hr mn (by simp)), hb, hr n (by simp), hob, hbe, hc']
               · cases h
             · cases h
           · cases h
         · cases h
       · cases h
     · cases h
   · cases h
 · cases h
theorem evNilCheck_loc {T : Tys} {x : SV} (h : evNilCheck T rd x = some e) (hr : ∀ n ∈ e.rds, rd' n = rd n) : evNilCheck T rd' x = some e := by
 unfold evNilCheck at *
 split at h
 · split at h
   · rename_i ob hob
     simp only [Option.some.injEq] at h; subst h
     simp only [hr _ (List.mem_singleton_self _), hob]
   · cases h
 · exact h
 · exact h
 · cases h
theorem evPtrNil_loc {T : Tys} {op : BinOp} {t : Nat} {x y : SV} (h : evPtrNil T rd op t x y = some e) (hr : ∀ n ∈ e.rds, rd' n = rd n) : evPtrNil T rd' op t x y = some e := by
 unfold evPtrNil at *
 split at h
 · split at h
   · split at h
     · rename_i ob hob
       split at h
       · rename_i hl
         simp only [Option.some.injEq] at h; subst h
         simp only [hr _ (List.mem_singleton_self _), hob]
       · cases h
     · cases h
   · exact h
   · cases h
 · cases h
theorem evCopy_loc {T : Tys} {t : Nat} {d s : SV} (h : evCopy T rd t d s = some e) (hr : ∀ n ∈ e.rds, rd' n = rd n) : evCopy T rd' t d s = some e := by
 unfold evCopy at *
 split at h
 · split at h
   · split at h
     · split at h
       · rename_i hdn
         split at h
         · rename_i hsn
           split at h
           · rename_i hk
             simp only [Option.some.injEq] at h; subst h
             simp only [hr _ (List.mem_cons_self), hr _ (List.mem_cons_of_mem _ (List.mem_singleton_self _)), hdn, hsn, hk]
           · cases h
         · cases h
       · cases h
     · cases h
   · cases h
 · cases h
theorem evOp_loc {o : Op} (h : evOp E ev rd nm o = some e) (hv : ∀ x ∈ o.operands, ev' x = ev x) (hr : ∀ n ∈ e.rds, rd' n = rd n) : evOp E ev' rd' nm o = some e := by
 cases o <;> simp only [evOp, reduceCtorEq] at h
 case move x => simp only [evOp, hv x (by simp [Op.operands])]; exact h
 case assign x => simp only [evOp, hv x (by simp [Op.operands])]; exact h
 case pick c a b => simp only [evOp, hv c (by simp [Op.operands]), hv a (by simp [Op.operands]), hv b (by simp [Op.operands])]; exact h
 case alloc t => exact h
 case box t x => simp only [evOp, hv x (by simp [Op.operands])]; exact h
 case load t x =>
   simp only [evOp, hv x (by simp [Op.operands])]
   split at h
   · exact evLd_loc h hr
   · cases h
 case store t x y =>
   simp only [evOp, hv x (by simp [Op.operands]), hv y (by simp [Op.operands])]
   split at h
   · exact evSt_loc h hr
   · cases h
 case binOp op t x y yt =>
   simp only [evOp, hv x (by simp [Op.operands]), hv y (by simp [Op.operands])]
   split at h
   · split at h
     · exact h
     · exact evPtrNil_loc h hr
   · cases h
 case nilCheck x =>
   simp only [evOp, hv x (by simp [Op.operands])]
   split at h
   · exact evNilCheck_loc h hr
   · cases h
 case makeSlice t l c => simp only [evOp, hv l (by simp [Op.operands]), hv c (by simp [Op.operands])]; exact h
 case unOp op t x => simp only [evOp, hv x (by simp [Op.operands])]; exact h
 case convert s d x => simp only [evOp, hv x (by simp [Op.operands])]; exact h
 case makeInterface t x => simp only [evOp, hv x (by simp [Op.operands])]; exact h
 case makeFunc fn first captured =>
   simp only [evOp]
   rw [evL_congr (ev := ev) (ev' := ev') fun x hx => hv x (by simp [Op.operands]; exact .inl (by simpa using hx)), evL_congr (ev := ev) (ev' := ev') fun x hx => hv x (by simp [Op.operands]; exact .inr (by simpa using hx))]
   exact h
 case slice t x lo hi mx =>
   simp only [evOp, hv x (by simp [Op.operands])]
   rw [evO_congr (ev := ev) (ev' := ev') (x := lo) fun y hy => hv y (by simp [Op.operands, hy]), evO_congr (ev := ev) (ev' := ev') (x := hi) fun y hy => hv y (by simp [Op.operands, hy]), evO_congr (ev := ev) (ev' := ev') (x := mx) fun y hy => hv y (by simp [Op.operands, hy])]
   split at h
   · split at h
     · rename_i hs
       first | exact h | (simp only [hs]; exact h)
     · rename_i hs
       first | exact evSliceC_loc h hr | (simp only [hs]; exact evSliceC_loc h hr)
   · cases h
 case fieldAddr s x i =>
   simp only [evOp, hv x (by simp [Op.operands])]
   split at h
   · exact evFieldAddr_loc h hr
   · cases h
 case field s x i => simp only [evOp, hv x (by simp [Op.operands])]; exact h
 case indexAddr t x i =>
   simp only [evOp, hv x (by simp [Op.operands]), hv i (by simp [Op.operands])]
   split at h
   · exact evIndexAddr_loc h hr
   · cases h
 case build t parts =>
   simp only [evOp]
   rw [evParts_congr (ev := ev) (ev' := ev') fun p hp => hv p.2 (by simp only [Op.operands, List.mem_toArray, List.mem_map]; exact ⟨p, hp, rfl⟩)]
   exact h
 case buildSlice t len parts =>
   simp only [evOp]
   rw [evParts_congr (ev := ev) (ev' := ev') fun p hp => hv p.2 (by simp only [Op.operands, List.mem_toArray, List.mem_map]; exact ⟨p, hp, rfl⟩)]
   exact h
 case typeAssert x t asserted ok => simp only [evOp, hv x (by simp [Op.operands])]; exact h
 case extract x i => simp only [evOp, hv x (by simp [Op.operands])]; exact h
 case call c =>
   simp only [evOp]
   unfold evCallB at *
   split at h
   · split at h
     · split at h
       · rw [evL_congr (ev := ev) (ev' := ev') fun x hx => hv x (by simp [Op.operands, Call.operands]; exact .inr (by simpa using hx))]
         split at h
         · exact evAppend_loc h hr
         · cases h
       · cases h
     · cases h
   · split at h
     · split at h
       · rw [evL_congr (ev := ev) (ev' := ev') fun x hx => hv x (by simp [Op.operands, Call.operands]; exact .inr (by simpa using hx))]
         split at h
         · exact evCopy_loc h hr
         · cases h
       · cases h
     · cases h
   · rw [evL_congr (ev := ev) (ev' := ev') fun x hx => hv x (by simp [Op.operands, Call.operands]; exact .inr (by simpa using hx))]
     exact h
   · cases h
theorem recvOf_loc {m : Mth} {v v' : SV} {rs : List Nm} (h : recvOf rd m v = some (v', rs)) (hr : ∀ n ∈ rs, rd' n = rd n) : recvOf rd' m v = some (v', rs) := by
 unfold recvOf at *
 split at h
 · exact h
 · split at h
   · split at h
     · rename_i hob
       simp only [Option.some.injEq, Prod.mk.injEq] at h
       obtain ⟨rfl, rfl⟩ := h
       simp only [hr _ (List.mem_singleton_self _), hob]
     · cases h
   · cases h
theorem evInv_loc {P : Program} {T : Tys} (hG : GamOk P G.Γ) {name : String} {x : SV} {vs : List SV} (h : evInv T G.Γ rd nm name x vs = some e) (hr : ∀ n ∈ e.rds, rd' n = rd n) : evInv T G.Γ rd' nm name x vs = some e := by
 unfold evInv at *
 split at h
 · split at h
   · split at h
     · split at h
       · rename_i hrv
         split at h
         · rename_i k hk
           split at h
           · rename_i e' he'
             simp only [Option.some.injEq] at h
             subst h
             simp only [recvOf_loc hrv (fun n hn => hr n (by simp [hn])), (hG _ k hk).loc he' (fun n hn => hr n (by simp [hn]))]
           · cases h
         · cases h
       · cases h
     · cases h
   · cases h
 · cases h
theorem evAny_loc {P : Program} (hG : GamOk P G.Γ) {o : Op} (h : evAny G ev rd nm o = some e) (hv : ∀ x ∈ o.operands, ev' x = ev x) (hr : ∀ n ∈ e.rds, rd' n = rd n) : evAny G ev' rd' nm o = some e := by
 unfold evAny at h
 split at h
 · rename_i c
   simp only [evAny]
   split at h
   · exact evOp_loc (nm := nm) (rd := rd) (rd' := rd') (o := .call c) h hv hr
   · unfold evCallF at *
     split at h
     · rename_i x name hx
       have h1 : ev' x = ev x := hv x (by simp [Op.operands, Call.operands, hx])
       have h2 : evL ev' c.args.toList = evL ev c.args.toList := evL_congr fun y hy => hv y (by simp [Op.operands, Call.operands]; exact .inr (by simpa using hy))
       simp only [h1, h2]
       split at h
       · split at h
         · exact evInv_loc hG h hr
         · cases h
       · cases h
     · rename_i x hx
       have h1 : ev' x = ev x := hv x (by simp [Op.operands, Call.operands, hx])
       have h2 : evL ev' c.args.toList = evL ev c.args.toList := evL_congr fun y hy => hv y (by simp [Op.operands, Call.operands]; exact .inr (by simpa using hy))
       simp only [h1, h2]
       split at h
       · split at h
         · split at h
           · rename_i k hk
             exact (hG _ k hk).loc h hr
           · cases h
         · cases h
       · cases h
     · cases h
 · rename_i hno
   unfold evAny
   split
   · rename_i c; exact absurd rfl (hno c)
   · exact evOp_loc h hv hr
end
end Go.Sx

namespace Go.Sx
open Go.RowKit
def setSl (S : St) (d : Nat) (v : SV) : St := { S with sl := (d, v) :: S.sl }
def St.app (S : St) (dst : Option Nat) (e : Eff) : St :=
 { nt := S.nt
   sl := match dst with
     | some d => match e.val with
       | some v => (d, v) :: S.sl
       | none => (d, .tup []) :: S.sl
     | none => S.sl
   H := e.wr ++ (e.news ++ S.H)
   N := S.N + 12 }
def okK : Option Prop → Prop → Prop
 | none, q => q
 | some p, q => p ∧ q
theorem okK_iff {p : Option Prop} {q : Prop} (h : okK p q) : okP p ∧ q := by
 cases p with
 | none => exact ⟨trivial, h⟩
 | some p => exact h
def dstOk (S : St) : Option Nat → Bool
 | none => true
 | some d => Nat.blt d S.nt
def QuoRel (k : FloatKind) (a b r : Nat) : Prop :=
 match floatBits .quo k a b with
 | some v => r = v
 | none => (k.decode r).isNaN = true
def fquo (S : St) (o : Op) : Option (FloatKind × Nat × Nat) :=
 match o with
 | .binOp .quo _ x y _ => match opr S.sl x, opr S.sl y with
   | some (.flt k a), some (.flt k' b) => match fkEq k k' with
     | true => some (k, a, b)
     | false => none
   | _, _ => none
 | _ => none
def stepK (G : Ctx) (o : Oper) (S : St) (K : St → Prop) : Prop :=
 match dstOk S o.dst with
 | true => match fquo S o.op with
   | some (k, a, b) => ∀ r, QuoRel k a b r → K (S.app o.dst (Eff.pure (.flt k r)))
   | none => match evAny G (opr S.sl) (look S.H) S.N o.op with
     | some e => okK e.obl (K (S.app o.dst e))
     | none => False
 | false => False
def skipK (o : Oper) (S : St) (K : St → Prop) : Prop :=
 match dstOk S o.dst with
 | true => match o.dst with
   | some d => K (setSl S d (.tup []))
   | none => K S
 | false => False
def gdst (ops : List Oper) (j : Nat) : Option Nat :=
 match nth ops j with
 | some o => o.dst
 | none => none
def operK (G : Ctx) (ops : List Oper) (o : Oper) (S : St) (K : St → Prop) : Prop :=
 match o.guard with
 | none => stepK G o S K
 | some (j, want) => match gdst ops j with
   | none => False
   | some d => match slot S.sl d with
     | some .tt => match want with
       | true => stepK G o S K
       | false => skipK o S K
     | some .ff => match want with
       | true => skipK o S K
       | false => stepK G o S K
     | some (.tup []) => skipK o S K
     | some (.bool b) =>
       (b = true → match want with
         | true => stepK G o (setSl S d .tt) K
         | false => skipK o (setSl S d .tt) K) ∧
       (b = false → match want with
         | true => skipK o (setSl S d .ff) K
         | false => stepK G o (setSl S d .ff) K)
     | _ => False
def runOps (G : Ctx) (ops : List Oper) : List Oper → St → (St → Prop) → Prop
 | [], S, K => K S
 | o :: r, S, K => operK G ops o S (fun S' => runOps G ops r S' K)
section
variable {P : Program} {W0 : World} {Fr : Nat → Prop} {G : Ctx} {S : St} {ρ : Rho} {a : Act} {w : World}
def After (W0 : World) (Fr : Nat → Prop) (N0 : Nat) (ρ0 : Rho) (K : St → Prop) (Q : Act → World → Prop) : Prop :=
 ∀ S' ρ' a' w', K S' → Sat W0 Fr S' ρ' a' w' → N0 ≤ S'.N → (∀ n, n < N0 → ρ' n = ρ0 n) → Q a' w'
theorem const_opr {sl : Slots} {c : Value} {v : SV} (h : opr sl (.const c) = some v) (ρ : Rho) : c = v.den ρ := ((ofV_den (v := c) (s := v) h ρ (fun _ => True)).1).symm
theorem Sat.put (h : Sat W0 Fr S ρ a w) {d : Nat} (hd : d < S.nt) {v : SV} (hv : v.bd (· < S.N)) : Sat W0 Fr (setSl S d v) ρ (a.put (some d) (v.den ρ)) w :=
 ⟨h.h, h.s.put hd hv⟩
theorem Sat.set (h : Sat W0 Fr S ρ a w) {d : Nat} {v u : SV} (hu : slot S.sl d = some u) (he : u.den ρ = v.den ρ) (hv : v.bd (· < S.N)) : Sat W0 Fr (setSl S d v) ρ a w :=
 ⟨h.h, { h.s with
   bd := fun t x hx => by
     simp only [setSl, slot_cons] at hx
     split at hx
     · cases hx; exact hv
     · exact h.s.bd t x hx
   val := fun t x hx => by
     simp only [setSl, slot_cons] at hx
     split at hx
     · rename_i e; subst e; cases hx; rw [← he]; exact h.s.val _ u hu
     · exact h.s.val t x hx }⟩
theorem read_nan (f : Ieee.Format) (b : Nat) (h1 : ¬ b % f.signWeight < f.binade) (h2 : ¬ b % f.signWeight < f.infRung) (h3 : ¬ b % f.signWeight = f.infRung) : (f.read b).isNaN = true := by
 simp [Ieee.Format.read, h1, h2, h3, Ieee.Datum.isNaN]
theorem nan_cut (k : FloatKind) (x y t : Nat) : (k.decode ((Question.nanBits k x y).cut t)).isNaN = true := by
 cases k
 · have hs : (t / 2) % (2 ^ 23 - 1) < 2 ^ 23 - 1 := Nat.mod_lt _ (by decide)
   simp only [Question.cut]
   generalize (t / 2) % (2 ^ 23 - 1) = s at hs
   have hm : ((t % 2) * 2 ^ 31 + 0x7f800000 + 1 + s) % Ieee.single.signWeight = 0x7f800000 + 1 + s := by
     rw [show Ieee.single.signWeight = 2 ^ 31 by decide]; omega
   refine read_nan Ieee.single _ ?_ ?_ ?_ <;> rw [hm]
   · rw [show Ieee.single.binade = 2 ^ 23 by decide]; omega
   · rw [show Ieee.single.infRung = 0x7f800000 by decide]; omega
   · rw [show Ieee.single.infRung = 0x7f800000 by decide]; omega
 · have hs : (t / 2) % (2 ^ 52 - 1) < 2 ^ 52 - 1 := Nat.mod_lt _ (by decide)
   simp only [Question.cut]
   generalize (t / 2) % (2 ^ 52 - 1) = s at hs
   have hm : ((t % 2) * 2 ^ 63 + 0x7ff0000000000000 + 1 + s) % Ieee.double.signWeight = 0x7ff0000000000000 + 1 + s := by
     rw [show Ieee.double.signWeight = 2 ^ 63 by decide]; omega
   refine read_nan Ieee.double _ ?_ ?_ ?_ <;> rw [hm]
   · rw [show Ieee.double.binade = 2 ^ 52 by decide]; omega
   · rw [show Ieee.double.infRung = 0x7ff0000000000000 by decide]; omega
   · rw [show Ieee.double.infRung = 0x7ff0000000000000 by decide]; omega
theorem run_quo {P : Program} (w : World) (t : TypeId) (k : FloatKind) (a b : Nat) : ∃ r w', (binOp .quo t (.float k a) (.float k b)).run P w = .ok (.float k r) w' ∧ QuoRel k a b r ∧ (w' = w ∨ w' = w.drew) := by
 unfold QuoRel
 cases hq : floatBits .quo k a b with
 | some v => exact ⟨v, w, run_float_arith w .quo t k a b v hq, rfl, .inl rfl⟩
 | none =>
   have hd : k.format.div a b = none := hq
   refine ⟨(Question.nanBits k a b).cut (w.tape w.drawn (.nanBits k a b)), w.drew, ?_, nan_cut k a b _, .inr rfl⟩
   simp [binOp, Op.floatArith, hd, Question.forced]
theorem stepK_sound (hG : CtxOk P G) {N0 : Nat} {ρ0 : Rho} {o : Oper} {K : St → Prop} (h : stepK G o S K) (hS : Sat W0 Fr S ρ a w) (hN : N0 ≤ S.N) (hρ : ∀ n, n < N0 → ρ n = ρ0 n)
   {next : Act → World → Prop} {Q : Exit → Act → World → Prop} (hK : After W0 Fr N0 ρ0 K next) : o.wp P a w next Q := by
 unfold stepK at h
 split at h
 · rename_i hd
   split at h
   · rename_i k x y hq
     unfold fquo at hq
     split at hq
     · rename_i t xo yo yt hop
       split at hq
       · rename_i k1 a1 k2 b1 hx hy
         split at hq
         · rename_i hk
           have := fkEq_eq hk
           subst this
           simp only [Option.some.injEq, Prod.mk.injEq] at hq
           obtain ⟨rfl, rfl, rfl⟩ := hq
           obtain ⟨r, w', hrun, hrel, hw'⟩ := run_quo (P := P) w t k1 a1 b1
           have e1 := (opr_sat hS.s hx).1
           have e2 := (opr_sat hS.s hy).1
           simp only [SV.den] at e1 e2
           have hexec : (execOp a.eval o).run P w = .ok (.value (.float k1 r)) w' := by
             simp only [execOp, hop, e1, e2, eqGuard_quo, Sem.run_bind, Sem.run_pure, Result.andThen_ok, hrun]
           have hS' : Sat W0 Fr S ρ a w' := by
             rcases hw' with rfl | rfl
             · exact hS
             · exact ⟨hS.h.drew, hS.s⟩
           unfold Oper.wp
           rw [hexec]
           have hH' := hS'.h.mono (U' := (· < S.N + 12)) (fun n hn => Nat.lt_of_lt_of_le hn (Nat.le_add_right _ _))
           have hs' := hS'.s.mono (U' := (· < S.N + 12)) (fun n hn => Nat.lt_of_lt_of_le hn (Nat.le_add_right _ _)) (fun _ _ => rfl)
           refine hK (S.app o.dst (Eff.pure (.flt k1 r))) ρ _ _ (h r hrel) ⟨hH', ?_⟩ (Nat.le_trans hN (Nat.le_add_right _ _)) hρ
           cases hdst : o.dst with
           | none => simpa [St.app, Act.put] using hs'
           | some d =>
             have hd' : d < S.nt := by rw [hdst] at hd; simpa [dstOk] using hd
             exact hs'.put (v := .flt k1 r) hd' trivial
         · cases hq
       · cases hq
     · cases hq
   split at h
   · rename_i e he
     obtain ⟨h1, h2⟩ := okK_iff h
     refine evAny_sound hG hS.h (fun j _ => by simp) (fun x v hx => opr_sat hS.s hx) (fun c v hc => const_opr hc ρ) he h1 (fun ρ' w' hr hH => ?_)
     have hU : ∀ n, UU (· < S.N) S.N n → n < S.N + 12 := by
       intro n hn
       rcases hn with hn | hn
       · exact Nat.lt_of_lt_of_le hn (Nat.le_add_right _ _)
       · exact hn.2
     have hH' := hH.mono (U' := (· < S.N + 12)) hU
     have hs' := hS.s.mono (U' := (· < S.N + 12)) (fun n hn => Nat.lt_of_lt_of_le hn (Nat.le_add_right _ _)) hr
     have hρ' : ∀ n, n < N0 → ρ' n = ρ0 n := fun n hn => (hr n (Nat.lt_of_lt_of_le hn hN)).trans (hρ n hn)
     have hN' : N0 ≤ S.N + 12 := Nat.le_trans hN (Nat.le_add_right _ _)
     split
     · rename_i v hv
       intro hb
       refine hK (S.app o.dst e) ρ' _ _ h2 ⟨hH', ?_⟩ hN' hρ'
       cases hdst : o.dst with
       | none => simpa [St.app, Act.put] using hs'
       | some d =>
         have hd' : d < S.nt := by rw [hdst] at hd; simpa [dstOk] using hd
         simp only [St.app, hv]
         exact hs'.put hd' (SV.bd_mono hU v hb)
     · rename_i hv
       refine hK (S.app o.dst e) ρ' _ _ h2 ⟨hH', ?_⟩ hN' hρ'
       cases hdst : o.dst with
       | none => simpa [St.app, Act.put] using hs'
       | some d =>
         have hd' : d < S.nt := by rw [hdst] at hd; simpa [dstOk] using hd
         simp only [St.app, hv]
         exact hs'.put (v := .tup []) hd' (by simp [SV.bd, bdL])
   · exact h.elim
 · exact h.elim
theorem skipK_sound {N0 : Nat} {ρ0 : Rho} {o : Oper} {K : St → Prop} (h : skipK o S K) (hS : Sat W0 Fr S ρ a w) (hN : N0 ≤ S.N) (hρ : ∀ n, n < N0 → ρ n = ρ0 n)
   {next : Act → World → Prop} (hK : After W0 Fr N0 ρ0 K next) : next (a.put o.dst undef) w := by
 unfold skipK at h
 split at h
 · rename_i hd
   split at h
   · rename_i d hdst
     rw [hdst] at hd ⊢
     have hd' : d < S.nt := by simpa [dstOk] using hd
     exact hK _ ρ _ _ h (hS.put (v := .tup []) hd' (by simp [SV.bd, bdL])) hN hρ
   · rename_i hdst
     rw [hdst]
     exact hK _ ρ _ _ h hS hN hρ
 · exact h.elim
def turn (P : Program) (ops : Array Oper) (o : Oper) (a : Act) (w : World) (next : Act → World → Prop) (Q : Exit → Act → World → Prop) : Prop :=
 if Region.wanted o (yielded ops a.tmps) then o.wp P a w next Q ∨ (o.asks P a w ∧ LetsOut Q) else next (a.put o.dst undef) w
theorem operK_sound (hG : CtxOk P G) {N0 : Nat} {ρ0 : Rho} {ops : List Oper} {o : Oper} {K : St → Prop} (h : operK G ops o S K) (hS : Sat W0 Fr S ρ a w) (hN : N0 ≤ S.N) (hρ : ∀ n, n < N0 → ρ n = ρ0 n)
   {next : Act → World → Prop} {Q : Exit → Act → World → Prop} (hK : After W0 Fr N0 ρ0 K next) : turn P ops.toArray o a w next Q := by
 unfold operK at h
 unfold turn
 split at h
 · rename_i hg
   rw [if_pos (by simp [Region.wanted, hg])]
   exact .inl (stepK_sound hG h hS hN hρ hK)
 · rename_i j want hg
   split at h
   · exact h.elim
   · rename_i d hd
     have hdst : (ops.toArray[j]?).bind (·.dst) = some d := by
       unfold gdst at hd
       rw [nth_eq] at hd
       split at hd
       · rename_i o' ho'; simp [ho', hd]
       · cases hd
     have wantedIs : ∀ (v : Value), a.tmps[d]? = some v → Region.wanted o (yielded ops.toArray a.tmps) = ((match v with | .bool b => some b | _ => none) == some want) := by
       intro v hv
       simp only [Region.wanted, hg, yielded, hdst, Option.bind_some, hv]
       cases v <;> rfl
     split at h
     · rename_i hv
       have hw := wantedIs _ (hS.s.val _ _ hv)
       simp only [SV.den] at hw
       split at h
       · rw [hw]; exact .inl (stepK_sound hG h hS hN hρ hK)
       · rw [hw]; exact skipK_sound h hS hN hρ hK
     · rename_i hv
       have hw := wantedIs _ (hS.s.val _ _ hv)
       simp only [SV.den] at hw
       split at h
       · rw [hw]; exact skipK_sound h hS hN hρ hK
       · rw [hw]; exact .inl (stepK_sound hG h hS hN hρ hK)
     · rename_i hv
       have hw := wantedIs _ (hS.s.val _ _ hv)
       simp only [SV.den] at hw
       rw [hw]
       exact skipK_sound h hS hN hρ hK
     · rename_i b hv
       have hw := wantedIs _ (hS.s.val _ _ hv)
       simp only [SV.den] at hw
       rw [hw]
       cases b
       · have h2 := h.2 rfl
         have hS' : Sat W0 Fr (setSl S d .ff) ρ a w := hS.set hv rfl trivial
         split at h2
         · exact skipK_sound h2 hS' hN hρ hK
         · exact .inl (stepK_sound hG h2 hS' hN hρ hK)
       · have h1 := h.1 rfl
         have hS' : Sat W0 Fr (setSl S d .tt) ρ a w := hS.set hv rfl trivial
         split at h1
         · exact .inl (stepK_sound hG h1 hS' hN hρ hK)
         · exact skipK_sound h1 hS' hN hρ hK
     · exact h.elim
theorem runOps_sound (hG : CtxOk P G) {N0 : Nat} {ρ0 : Rho} {ops : List Oper} {Q : Exit → Act → World → Prop} : ∀ (l : List Oper) (k : Nat) {S : St} {ρ : Rho} {a : Act} {w : World} {K : St → Prop}, (∀ j, l[j]? = ops[k + j]?) →
   runOps G ops l S K → Sat W0 Fr S ρ a w → N0 ≤ S.N → (∀ n, n < N0 → ρ n = ρ0 n) → After W0 Fr N0 ρ0 K (Q .normal) → wpOps P ops.toArray Q (List.range' k l.length) a w
 | [], k, S, ρ, a, w, K, _, h, hS, hN, hρ, hK => hK S ρ a w h hS hN hρ
 | o :: r, k, S, ρ, a, w, K, hl, h, hS, hN, hρ, hK => by
   have ho : ops[k]? = some o := by simpa using (hl 0).symm
   simp only [List.length_cons, List.range'_succ]
   unfold wpOps
   simp only [List.getElem?_toArray, ho]
   refine operK_sound hG h hS hN hρ fun S' ρ' a' w' h' hS' hN' hρ' => ?_
   refine runOps_sound hG r (k + 1) (fun j => ?_) h' hS' hN' hρ' hK
   have := hl (j + 1)
   simp only [List.getElem?_cons_succ] at this
   rw [this]; congr 1; omega
end
end Go.Sx

namespace Go.Sx
open Go.RowKit
abbrev AS := Slots × Heap
abbrev Ent := Nat × Oper × Eff
def skipE : Eff := ⟨some (.tup []), [], [], [], none⟩
def lookB : List (Nat × Bool) → Nat → Option Bool
 | [], _ => none
 | (m, v) :: r, n => match Nat.beq m n with
   | true => some v
   | false => lookB r n
def litB : Bool → SV
 | true => .tt
 | false => .ff
def andO (p : Option Prop) (q : Prop) : Option Prop :=
 match p with
 | none => some q
 | some p => some (p ∧ q)
def decV (dec : List (Nat × Bool)) (i : Nat) (e : Eff) : Eff :=
 match lookB dec i with
 | none => e
 | some c => match e with
   | ⟨some (.bool b), wr, news, rds, obl⟩ => ⟨some (litB c), wr, news, rds, andO obl (b = c)⟩
   | e => e
def run1 (G : Ctx) (N : Nat) (dec : List (Nat × Bool)) (i : Nat) (o : Oper) (s : AS) : Option Eff :=
 match evAny G (opr s.1) (look s.2) (N + 12 * i) o.op with
 | some e => some (decV dec i e)
 | none => none
def step1 (G : Ctx) (nt N : Nat) (ops : List Oper) (dec : List (Nat × Bool)) (i : Nat) (o : Oper) (s : AS) : Option Eff :=
 match (match o.dst with | none => true | some d => Nat.blt d nt) with
 | false => none
 | true => match o.guard with
   | none => run1 G N dec i o s
   | some (j, want) => match gdst ops j with
     | none => none
     | some d => match slot s.1 d with
       | some .tt => match want with
         | true => run1 G N dec i o s
         | false => some skipE
       | some .ff => match want with
         | true => some skipE
         | false => run1 G N dec i o s
       | some (.tup []) => some skipE
       | _ => none
def app1 (o : Oper) (e : Eff) (s : AS) : AS :=
 (match o.dst with
   | some d => match e.val with
     | some v => (d, v) :: s.1
     | none => (d, .tup []) :: s.1
   | none => s.1, e.wr ++ (e.news ++ s.2))
def names : Heap → List Nm
 | [] => []
 | (n, _) :: r => n :: names r
def foot (e : Eff) : List Nm := names e.wr ++ names e.news
theorem look_append (n : Nm) : ∀ (a b : Heap), look (a ++ b) n = match look a n with | some o => some o | none => look b n
 | [], b => by simp [look]
 | (m, o) :: r, b => by
   simp only [List.cons_append, look_cons, look_append n r b]
   split <;> rfl
theorem look_names {n : Nm} : ∀ {a : Heap}, n ∉ names a → look a n = none
 | [], _ => rfl
 | (m, o) :: r, h => by
   simp only [names, List.mem_cons, not_or] at h
   rw [look_cons, if_neg (fun e => h.1 e.symm), look_names h.2]
theorem look_app1 {o : Oper} {e : Eff} {s : AS} {n : Nm} (h : n ∉ foot e) : look (app1 o e s).2 n = look s.2 n := by
 simp only [foot, List.mem_append, not_or] at h
 simp only [app1, look_append, look_names h.1, look_names h.2]
theorem slot_app1 {o : Oper} {e : Eff} {s : AS} {t : Nat} (h : o.dst ≠ some t) : slot (app1 o e s).1 t = slot s.1 t := by
 simp only [app1]
 cases hd : o.dst with
 | none => rfl
 | some d =>
   have : d ≠ t := fun e => h (by rw [hd, e])
   cases e.val <;> simp [slot_cons, this]
def Same (s s' : AS) : Prop := (∀ t, slot s'.1 t = slot s.1 t) ∧ ∀ n, look s'.2 n = look s.2 n
theorem Same.refl (s : AS) : Same s s := ⟨fun _ => rfl, fun _ => rfl⟩
theorem Same.trans {a b c : AS} (h : Same a b) (h' : Same b c) : Same a c := ⟨fun t => (h'.1 t).trans (h.1 t), fun n => (h'.2 n).trans (h.2 n)⟩
theorem Same.app {s s' : AS} (h : Same s s') (o : Oper) (e : Eff) : Same (app1 o e s) (app1 o e s') := by
 refine ⟨fun t => ?_, fun n => ?_⟩
 · simp only [app1]
   cases o.dst with
   | none => exact h.1 t
   | some d => cases e.val <;> simp [slot_cons, h.1 t]
 · simp only [app1, look_append, h.2 n]
section
variable {P : Program} {G : Ctx} {nt N : Nat} {ops : List Oper} {dec : List (Nat × Bool)}
theorem run1_loc (hG : GamOk P G.Γ) {i : Nat} {o : Oper} {s s' : AS} {e : Eff} (h : run1 G N dec i o s = some e) (hs : ∀ t, Operand.tmp t ∈ o.op.operands → slot s'.1 t = slot s.1 t) (hr : ∀ n ∈ e.rds, look s'.2 n = look s.2 n) :
   run1 G N dec i o s' = some e := by
 unfold run1 at *
 split at h
 · rename_i e1 h1
   simp only [Option.some.injEq] at h
   have hrd : e.rds = e1.rds := by
     rw [← h]
     unfold decV
     split
     · rfl
     · split <;> rfl
   rw [hrd] at hr
   have := evAny_loc hG (ev' := opr s'.1) (rd' := look s'.2) h1 (fun x hx => by cases x <;> first | exact hs _ hx | rfl) hr
   rw [this, ← h]
 · cases h
theorem step1_loc (hG : GamOk P G.Γ) {i : Nat} {o : Oper} {s s' : AS} {e : Eff} (h : step1 G nt N ops dec i o s = some e) (hs : ∀ t ∈ o.looksAt ops.toArray, slot s'.1 t = slot s.1 t) (hr : ∀ n ∈ e.rds, look s'.2 n = look s.2 n) :
   step1 G nt N ops dec i o s' = some e := by
 have hop : ∀ t, Operand.tmp t ∈ o.op.operands → slot s'.1 t = slot s.1 t := fun t ht => hs t (by
   simp only [Oper.looksAt, List.mem_append, List.mem_filterMap]
   exact .inl ⟨.tmp t, by simpa using ht, rfl⟩)
 unfold step1 at *
 split at h
 · cases h
 · split at h
   · exact run1_loc hG h hop hr
   · rename_i j want hg
     split at h
     · cases h
     · rename_i d hgd
       have hdst : (ops.toArray[j]?).bind (·.dst) = some d := by
         unfold gdst at hgd
         rw [nth_eq] at hgd
         split at hgd
         · rename_i o' ho'; simp [ho', hgd]
         · cases hgd
       have hsd : slot s'.1 d = slot s.1 d := hs d (by
         simp only [Oper.looksAt, hg, List.mem_append]
         refine .inr ?_
         rw [hdst]; simp)
       rw [hsd]
       split at h
       · split at h
         · exact run1_loc hG h hop hr
         · exact h
       · split at h
         · exact h
         · exact run1_loc hG h hop hr
       · exact h
       · cases h
structure Indep (ops : List Oper) (oi oj : Oper) (ei ej : Eff) : Prop where
 ap : oi.apart ops.toArray oj = true
 rd : ∀ n ∈ ej.rds, n ∉ foot ei
 dr : ∀ n ∈ ei.rds, n ∉ foot ej
 wr : ∀ n ∈ foot ei, n ∉ foot ej
theorem swap (hG : GamOk P G.Γ) {i j : Nat} {oi oj : Oper} {s : AS} {ei ej : Eff} (hi : step1 G nt N ops dec i oi s = some ei) (hj : step1 G nt N ops dec j oj (app1 oi ei s) = some ej) (h : Indep ops oi oj ei ej) :
   step1 G nt N ops dec j oj s = some ej ∧ step1 G nt N ops dec i oi (app1 oj ej s) = some ei ∧ Same (app1 oj ej (app1 oi ei s)) (app1 oi ei (app1 oj ej s)) := by
 obtain ⟨h1, h2, h3⟩ := Oper.apart_spec h.ap
 refine ⟨?_, ?_, ?_, ?_⟩
 · exact step1_loc hG hj (fun t ht => (slot_app1 (fun hd => h1 t hd ht)).symm) (fun n hn => (look_app1 (h.rd n hn)).symm)
 · exact step1_loc hG hi (fun t ht => slot_app1 (fun hd => h3 t hd ht)) (fun n hn => look_app1 (h.dr n hn))
 · intro t
   by_cases ht : oi.dst = some t
   · have hne : oj.dst ≠ some t := h2 t ht
     rw [slot_app1 hne]
     simp only [app1, ht]
     cases ei.val <;> simp [slot_cons]
   · rw [slot_app1 ht]
     by_cases ht2 : oj.dst = some t
     · simp only [app1, ht2]
       cases ej.val <;> simp [slot_cons]
     · rw [slot_app1 ht2, slot_app1 ht2, slot_app1 ht]
 · intro n
   by_cases hn : n ∈ foot ei
   · have hn2 := h.wr n hn
     rw [look_app1 hn2]
     simp only [app1, look_append]
     simp only [foot, List.mem_append, not_or] at hn hn2
     cases hw : look ei.wr n with
     | some x => rfl
     | none =>
       cases hw2 : look ei.news n with
       | some x => rfl
       | none => simp [look_names hn2.1, look_names hn2.2]
   · rw [look_app1 hn]
     simp only [app1, look_append]
     simp only [foot, List.mem_append, not_or] at hn
     simp [look_names hn.1, look_names hn.2]
def Runs (G : Ctx) (nt N : Nat) (ops : List Oper) (dec : List (Nat × Bool)) : List Ent → AS → Prop
 | [], _ => True
 | (i, o, e) :: r, s => step1 G nt N ops dec i o s = some e ∧ Runs G nt N ops dec r (app1 o e s)
def fin : List Ent → AS → AS
 | [], s => s
 | (_, o, e) :: r, s => fin r (app1 o e s)
theorem Runs.same (hG : GamOk P G.Γ) : ∀ {l : List Ent} {s s' : AS}, Same s s' → Runs G nt N ops dec l s → Runs G nt N ops dec l s' ∧ Same (fin l s) (fin l s')
 | [], s, s', h, _ => ⟨trivial, h⟩
 | (i, o, e) :: r, s, s', h, hr => by
   obtain ⟨h1, h2⟩ := hr
   have h3 := step1_loc hG h1 (s' := s') (fun t _ => h.1 t) (fun n _ => h.2 n)
   obtain ⟨h4, h5⟩ := Runs.same hG (h.app o e) h2
   exact ⟨⟨h3, h4⟩, h5⟩
theorem bubble (hG : GamOk P G.Γ) {i : Nat} {o : Oper} {e : Eff} {post : List Ent} : ∀ {pre : List Ent} {s : AS}, Runs G nt N ops dec (pre ++ (i, o, e) :: post) s → (∀ x ∈ pre, Indep ops x.2.1 o x.2.2 e) →
   step1 G nt N ops dec i o s = some e ∧ Runs G nt N ops dec (pre ++ post) (app1 o e s) ∧ Same (fin (pre ++ (i, o, e) :: post) s) (fin (pre ++ post) (app1 o e s))
 | [], s, h, _ => ⟨h.1, h.2, Same.refl _⟩
 | (k, ok, ek) :: pre, s, h, hi => by
   obtain ⟨h1, h2⟩ := h
   obtain ⟨h3, h4, h5⟩ := bubble hG h2 (fun x hx => hi x (by simp [hx]))
   obtain ⟨h6, h7, h8⟩ := swap hG h1 h3 (hi (k, ok, ek) (by simp))
   obtain ⟨h9, h10⟩ := Runs.same hG h8 h4
   exact ⟨h6, ⟨h7, h9⟩, h5.trans h10⟩
end
end Go.Sx

namespace Go.Sx
open Go.RowKit
def maskOf (acc : List Nat) (o : Oper) : Nat :=
 o.after.toList.foldl (fun s e => match Region.binds .any e with
   | true => (s ||| 2 ^ e.on) ||| ((nth acc e.on).getD 0)
   | false => s) 0
def befGo : List Oper → List Nat → List Nat
 | [], acc => acc
 | o :: r, acc => befGo r (acc ++ [maskOf acc o])
theorem befGo_take : ∀ (l : List Oper) (acc : List Nat), (befGo l acc).take acc.length = acc
 | [], acc => by simp [befGo]
 | o :: r, acc => by
   have h := befGo_take r (acc ++ [maskOf acc o])
   simp only [befGo]
   have h2 : (befGo r (acc ++ [maskOf acc o])).take acc.length = ((befGo r (acc ++ [maskOf acc o])).take (acc ++ [maskOf acc o]).length).take acc.length := by
     rw [List.take_take]; congr 1; simp
   rw [h2, h]; simp
theorem befGo_get : ∀ (l : List Oper) (acc : List Nat) (i : Nat) (o : Oper), l[i]? = some o → (befGo l acc)[acc.length + i]? = some (maskOf ((befGo l acc).take (acc.length + i)) o)
 | [], acc, i, o, h => by simp at h
 | x :: r, acc, 0, o, h => by
   simp only [List.getElem?_cons_zero, Option.some.injEq] at h
   subst h
   simp only [befGo, Nat.add_zero]
   have h1 := befGo_take r (acc ++ [maskOf acc x])
   have h2 : (befGo r (acc ++ [maskOf acc x]))[acc.length]? = ((befGo r (acc ++ [maskOf acc x])).take (acc ++ [maskOf acc x]).length)[acc.length]? := by
     rw [List.getElem?_take, if_pos (by simp)]
   have h3 : (befGo r (acc ++ [maskOf acc x])).take acc.length = acc := by
     have := befGo_take (x :: r) acc
     simpa [befGo] using this
   rw [h2, h1, h3]; simp
 | x :: r, acc, i + 1, o, h => by
   have := befGo_get r (acc ++ [maskOf acc x]) i o (by simpa using h)
   simp only [befGo]
   rw [show (acc ++ [maskOf acc x]).length + i = acc.length + (i + 1) by simp; omega] at this
   exact this
theorem mask_spec {acc : List Nat} {k : Nat} : ∀ (es : List Edge) (s : Nat), (es.foldl (fun s e => match Region.binds .any e with
   | true => (s ||| 2 ^ e.on) ||| ((nth acc e.on).getD 0)
   | false => s) s).testBit k = true → s.testBit k = true ∨ ∃ e ∈ es, Region.binds .any e = true ∧ (k = e.on ∨ ((acc[e.on]?).getD 0).testBit k = true)
 | [], s, h => .inl h
 | e :: r, s, h => by
   simp only [List.foldl_cons] at h
   rcases mask_spec r _ h with h1 | ⟨e', he', h2⟩
   · split at h1
     · rename_i hb
       simp only [Nat.testBit_or, Bool.or_eq_true, nth_eq] at h1
       rcases h1 with (h1 | h1) | h1
       · exact .inl h1
       · rw [Nat.testBit_two_pow] at h1
         exact .inr ⟨e, by simp, hb, .inl (of_decide_eq_true h1).symm⟩
       · exact .inr ⟨e, by simp, hb, .inr h1⟩
     · exact .inl h1
   · exact .inr ⟨e', by simp [he'], h2⟩
theorem bef_spec {ops : List Oper} {L : Nat → Prop} (hL : ∀ i o, ops[i]? = some o → L i → ∀ e ∈ o.after, Region.binds .any e = true → L e.on) : ∀ (i : Nat) (o : Oper), ops[i]? = some o → (∀ e ∈ o.after, Region.binds .any e = true → L e.on) →
   ∀ k, (((befGo ops [])[i]?).getD 0).testBit k = true → L k := by
 intro i
 induction i using Nat.strongRecOn with
 | _ i ih =>
   intro o ho hr k hk
   have hg := befGo_get ops [] i o ho
   simp only [List.length_nil, Nat.zero_add] at hg
   rw [hg, Option.getD_some, maskOf] at hk
   rcases mask_spec _ _ hk with h0 | ⟨e, he, hb, h1⟩
   · simp at h0
   · have hle : L e.on := hr e (by simpa using he) hb
     rcases h1 with rfl | h1
     · exact hle
     · rw [List.getElem?_take] at h1
       split at h1
       · rename_i hlt
         cases hoe : ops[e.on]? with
         | none =>
           have hlen : ∀ (l : List Oper) (acc : List Nat), (befGo l acc).length = acc.length + l.length := by
             intro l
             induction l with
             | nil => intro acc; simp [befGo]
             | cons x r ihr => intro acc; simp [befGo, ihr]; omega
           have : ops.length ≤ e.on := List.getElem?_eq_none_iff.1 hoe
           rw [List.getElem?_eq_none (by rw [hlen]; simpa using this)] at h1
           simp at h1
         | some oe => exact ih e.on hlt oe hoe (fun e' he' hb' => hL e.on oe hoe hle e' he' hb') k h1
       · simp at h1
def allBack (ops : List Oper) : Bool := go ops 0
 where
  go : List Oper → Nat → Bool
    | [], _ => true
    | o :: r, i => (o.after.toList.all fun e => match Region.binds .any e with
      | true => Nat.blt e.on i
      | false => true) && go r (i + 1)
theorem allBack_go : ∀ (l : List Oper) (k : Nat), allBack.go l k = true → ∀ i o, l[i]? = some o → ∀ e ∈ o.after, Region.binds .any e = true → e.on < k + i
 | [], _, _, i, o, h => by simp at h
 | x :: r, k, h, i, o, ho => by
   simp only [allBack.go, Bool.and_eq_true] at h
   cases i with
   | zero =>
     simp only [List.getElem?_cons_zero, Option.some.injEq] at ho
     subst ho
     intro e he hb
     have := List.all_eq_true.1 h.1 e (by simpa using he)
     rw [hb] at this
     simpa using this
   | succ i =>
     intro e he hb
     have := allBack_go r (k + 1) h.2 i o (by simpa using ho) e he hb
     omega
def disjN (a b : List Nm) : Bool := a.all fun x => b.all fun y => !(Nat.beq x y)
theorem disjN_spec {a b : List Nm} (h : disjN a b = true) : ∀ x ∈ a, x ∉ b := by
 intro x hx hb
 have := List.all_eq_true.1 (List.all_eq_true.1 h x hx) x hb
 simp at this
def indepB (ops : List Oper) (x y : Ent) : Bool :=
 x.2.1.apart ops.toArray y.2.1 && (disjN (foot x.2.2) (y.2.2.rds ++ foot y.2.2) && disjN (foot y.2.2) x.2.2.rds)
theorem indepB_spec {ops : List Oper} {x y : Ent} (h : indepB ops x y = true) : Indep ops x.2.1 y.2.1 x.2.2 y.2.2 := by
 simp only [indepB, Bool.and_eq_true] at h
 obtain ⟨h1, h2, h3⟩ := h
 have h4 := disjN_spec h2
 have h5 := disjN_spec h3
 exact ⟨h1, fun n hn hf => h4 n hf (by simp [hn]), fun n hn hf => h5 n hf hn, fun n hn hf => h4 n hn (by simp [hf])⟩
def chkPairs (ops : List Oper) (ms : List Nat) : List Ent → Bool
 | [] => true
 | x :: r => (r.all fun y => ((nth ms y.1).getD 0).testBit x.1 || indepB ops x y) && chkPairs ops ms r
def chk (ops : List Oper) (log : List Ent) : Bool := allBack ops && chkPairs ops (befGo ops []) log
def Pair (ops : List Oper) (x y : Ent) : Prop := (((befGo ops [])[y.1]?).getD 0).testBit x.1 = true ∨ Indep ops x.2.1 y.2.1 x.2.2 y.2.2
theorem chkPairs_spec {ops : List Oper} : ∀ {l : List Ent}, chkPairs ops (befGo ops []) l = true → l.Pairwise (Pair ops)
 | [], _ => .nil
 | x :: r, h => by
   simp only [chkPairs, Bool.and_eq_true] at h
   refine .cons (fun y hy => ?_) (chkPairs_spec h.2)
   have := List.all_eq_true.1 h.1 y hy
   simp only [Bool.or_eq_true, nth_eq] at this
   exact this.imp id indepB_spec
def UD (N M : Nat) (l : List Ent) : Nm → Prop := fun (n : Nat) => n < N + 12 * M ∧ ∀ x ∈ l, ¬ (N + 12 * x.1 ≤ n ∧ n < N + 12 * x.1 + 12)
section
variable {P : Program} {W0 : World} {Fr : Nat → Prop} {G : Ctx} {nt N : Nat} {ops : List Oper} {dec : List (Nat × Bool)}
theorem decV_spec {i : Nat} {e : Eff} (h : okP (decV dec i e).obl) : okP e.obl ∧ (decV dec i e).wr = e.wr ∧ (decV dec i e).news = e.news ∧
   (match e.val with
    | some v => ∃ v', (decV dec i e).val = some v' ∧ (∀ ρ : Rho, v'.den ρ = v.den ρ) ∧ ∀ U : Nm → Prop, v.bd U → v'.bd U
    | none => (decV dec i e).val = none) := by
 unfold decV at h ⊢
 split
 · refine ⟨by simpa [*] using h, rfl, rfl, ?_⟩
   cases e.val with
   | none => rfl
   | some v => exact ⟨v, rfl, fun _ => rfl, fun _ h => h⟩
 · rename_i c hc
   simp only [hc] at h
   split at h
   · rename_i b wr news rds obl
     have h2 : okP obl ∧ b = c := by
       cases obl with
       | none => exact ⟨trivial, h⟩
       | some p => exact h
     refine ⟨h2.1, rfl, rfl, litB c, rfl, fun ρ => ?_, fun U _ => ?_⟩
     · rw [h2.2]; cases c <;> rfl
     · cases c <;> trivial
   · refine ⟨h, rfl, rfl, ?_⟩
     cases e.val with
     | none => rfl
     | some v => exact ⟨v, rfl, fun _ => rfl, fun _ h => h⟩
structure ASat (W0 : World) (Fr : Nat → Prop) (nt : Nat) (U : Nm → Prop) (s : AS) (ρ : Rho) (a : Act) (w : World) : Prop where
 h : HSat W0 Fr U s.2 ρ w
 s : SSat U nt s.1 ρ a
theorem turn1 (hG : CtxOk P G) {M : Nat} {l l' : List Ent} {i : Nat} {o : Oper} {e : Eff} {s : AS} {ρ : Rho} {a : Act} {w : World}
   (h : step1 G nt N ops dec i o s = some e) (ho : okP e.obl) (hS : ASat W0 Fr nt (UD N M l) s ρ a w) (hin : (i, o, e) ∈ l) (hiM : i < M) (hsub : ∀ x ∈ l', x ∈ l) (hne : ∀ x ∈ l', x.1 ≠ i)
   {next : Act → World → Prop} {Q : Exit → Act → World → Prop}
   (hk : ∀ ρ' a' w', ASat W0 Fr nt (UD N M l') (app1 o e s) ρ' a' w' → (∀ n, UD N M l n → ρ' n = ρ n) → next a' w') : turn P ops.toArray o a w next Q := by
 have hmono : ∀ n, UD N M l n → UD N M l' n := fun n hn => ⟨hn.1, fun x hx => hn.2 x (hsub x hx)⟩
 have hU : ∀ n, UU (UD N M l) (N + 12 * i) n → UD N M l' n := by
   intro n hn
   rcases hn with hn | hn
   · exact hmono n hn
   · refine ⟨?_, fun x hx hx2 => ?_⟩
     · have h1 : n < N + 12 * i + 12 := hn.2
       omega
     · have h1 : N + 12 * i ≤ n ∧ n < N + 12 * i + 12 := hn
       have := hne x hx
       omega
 have hn4 : ∀ j : Nat, j < 12 → ¬ UD N M l (N + 12 * i + j) := by
   intro j hj hu
   exact hu.2 (i, o, e) hin ⟨Nat.le_add_right _ _, by show N + 12 * i + j < N + 12 * i + 12; omega⟩
 have skip : e = skipE → (∀ d, o.dst = some d → d < nt) → next (a.put o.dst undef) w := by
   intro he hd
   subst he
   refine hk ρ _ w ⟨?_, ?_⟩ (fun _ _ => rfl)
   · exact hS.h.mono hmono
   · have hs := hS.s.mono hmono (fun _ _ => rfl)
     simp only [app1, skipE]
     cases hdst : o.dst with
     | none => simpa [Act.put] using hs
     | some d => exact hs.put (v := .tup []) (hd d hdst) (by simp [SV.bd, bdL])
 have run : run1 G N dec i o s = some e → (∀ d, o.dst = some d → d < nt) → o.wp P a w next Q := by
   intro hr hd
   unfold run1 at hr
   split at hr
   · rename_i e1 h1
     simp only [Option.some.injEq] at hr
     subst hr
     obtain ⟨h2, h3, h4, h5⟩ := decV_spec ho
     refine evAny_sound hG hS.h hn4 (fun x v hx => opr_sat hS.s hx) (fun c v hc => const_opr hc ρ) h1 h2 (fun ρ' w' hr' hH => ?_)
     have hH' : HSat W0 Fr (UD N M l') ((decV dec i e1).wr ++ ((decV dec i e1).news ++ s.2)) ρ' w' := by
       rw [h3, h4]; exact hH.mono hU
     have hs := hS.s.mono hmono hr'
     split
     · rename_i v hv
       intro hb
       rw [hv] at h5
       obtain ⟨v', h6, h7, h8⟩ := h5
       refine hk ρ' _ w' ⟨hH', ?_⟩ hr'
       rw [← h7 ρ']
       simp only [app1, h6]
       cases hdst : o.dst with
       | none => simpa [Act.put] using hs
       | some d => exact hs.put (hd d hdst) (h8 _ (SV.bd_mono hU v hb))
     · rename_i hv
       rw [hv] at h5
       refine hk ρ' _ w' ⟨hH', ?_⟩ hr'
       simp only [app1, h5]
       cases hdst : o.dst with
       | none => simpa [Act.put] using hs
       | some d => exact hs.put (v := .tup []) (hd d hdst) (by simp [SV.bd, bdL])
   · cases hr
 unfold step1 at h
 split at h
 · cases h
 · rename_i hd0
   have hd : ∀ d, o.dst = some d → d < nt := by
     intro d hd; rw [hd] at hd0; simpa using hd0
   unfold turn
   split at h
   · rename_i hg
     rw [if_pos (by simp [Region.wanted, hg])]
     exact .inl (run h hd)
   · rename_i j want hg
     split at h
     · cases h
     · rename_i d hgd
       have hdst : (ops.toArray[j]?).bind (·.dst) = some d := by
         unfold gdst at hgd
         rw [nth_eq] at hgd
         split at hgd
         · rename_i o' ho'; simp [ho', hgd]
         · cases hgd
       have wantedIs : ∀ (v : Value), a.tmps[d]? = some v → Region.wanted o (yielded ops.toArray a.tmps) = ((match v with | .bool b => some b | _ => none) == some want) := by
         intro v hv
         simp only [Region.wanted, hg, yielded, hdst, Option.bind_some, hv]
         cases v <;> rfl
       split at h
       · rename_i hv
         have hw := wantedIs _ (hS.s.val _ _ hv)
         simp only [SV.den] at hw
         split at h
         · rw [hw]; exact .inl (run h hd)
         · rw [hw]; exact skip (by simpa using h.symm) hd
       · rename_i hv
         have hw := wantedIs _ (hS.s.val _ _ hv)
         simp only [SV.den] at hw
         split at h
         · rw [hw]; exact skip (by simpa using h.symm) hd
         · rw [hw]; exact .inl (run h hd)
       · rename_i hv
         have hw := wantedIs _ (hS.s.val _ _ hv)
         simp only [SV.den] at hw
         rw [hw]
         exact skip (by simpa using h.symm) hd
       · cases h
end
end Go.Sx

namespace Go.Sx
open Go.RowKit
def oblAll : List Ent → Prop
 | [] => True
 | (_, _, e) :: r => okP e.obl ∧ oblAll r
theorem oblAll_mem : ∀ {l : List Ent}, oblAll l → ∀ x ∈ l, okP x.2.2.obl
 | [], _, x, hx => by simp at hx
 | (i, o, e) :: r, h, x, hx => by
   rcases List.mem_cons.1 hx with rfl | hx
   · exact h.1
   · exact oblAll_mem h.2 x hx
section
variable {P : Program} {W0 : World} {Fr : Nat → Prop} {G : Ctx} {nt N : Nat} {ops : List Oper} {dec : List (Nat × Bool)}
theorem any_order (hG : CtxOk P G) (hback : allBack ops = true) {F : AS} {ρ0 : Rho} {N0 : Nat} (hN0 : N0 ≤ N) {Q : Exit → Act → World → Prop}
   (hQ : ∀ ρ a w, ASat W0 Fr nt (UD N ops.length []) F ρ a w → (∀ n, n < N0 → ρ n = ρ0 n) → Q .normal a w) :
   ∀ (fuel : Nat) (l : List Ent) (listed : Array Bool) (s : AS) (ρ : Rho) (a : Act) (w : World), l.length = fuel → listed.size = ops.length →
     (∀ j, j < ops.length → listed[j]? = some (!decide (∃ x ∈ l, x.1 = j))) →
     (∀ x ∈ l, ops[x.1]? = some x.2.1) → l.Pairwise (fun x y => x.1 < y.1) → l.Pairwise (Pair ops) → (∀ x ∈ l, okP x.2.2.obl) →
     (∀ i o, ops[i]? = some o → listed.getD i false = true → ∀ e ∈ o.after, Region.binds .any e = true → listed.getD e.on false = true) →
     Runs G nt N ops dec l s → Same F (fin l s) → ASat W0 Fr nt (UD N ops.length l) s ρ a w → (∀ n, n < N0 → ρ n = ρ0 n) →
     wpAny P .any ops.toArray Q fuel listed a w := by
 have hb := allBack_go ops 0 hback
 intro fuel
 induction fuel with
 | zero =>
   intro l listed s ρ a w hl hsz hli hops hsort hpair hobl hcl hruns hF hS hρ
   have hl0 : l = [] := List.length_eq_zero_iff.1 hl
   subst hl0
   refine ⟨?_, hQ ρ a w ?_ hρ⟩
   · refine List.eq_nil_iff_forall_not_mem.2 fun j hj => ?_
     rw [mem_ready] at hj
     obtain ⟨h1, o, ho, _⟩ := hj
     have hlt : j < ops.length := by
       have := (Array.getElem?_eq_some_iff.1 ho).1
       simpa using this
     have := hli j hlt
     simp [Array.getD_eq_getD_getElem?, this] at h1
   · exact ⟨hS.h.lookEq fun n => (hF.2 n).symm, { hS.s with
       bd := fun t v hv => hS.s.bd t v (by rw [← hv]; exact hF.1 t)
       val := fun t v hv => hS.s.val t v (by rw [← hv]; exact hF.1 t) }⟩
 | succ fuel ih =>
   intro l listed s ρ a w hl hsz hli hops hsort hpair hobl hcl hruns hF hS hρ
   have pend : ∀ j, j < ops.length → (listed.getD j true = false ↔ ∃ x ∈ l, x.1 = j) := by
     intro j hj
     simp [Array.getD_eq_getD_getElem?, hli j hj]
   have isl : ∀ j, listed.getD j false = true ↔ (j < ops.length ∧ ¬ ∃ x ∈ l, x.1 = j) := by
     intro j
     by_cases hj : j < ops.length
     · simp [Array.getD_eq_getD_getElem?, hli j hj, hj]
     · have : listed[j]? = none := Array.getElem?_eq_none (by omega)
       simp [Array.getD_eq_getD_getElem?, this, hj]
   refine ⟨fun hre => ?_, fun i hi => ?_⟩
   · exfalso
     match l, hl with
     | x :: r, hl =>
       have hox := hops x (by simp)
       have hlt : x.1 < ops.length := (List.getElem?_eq_some_iff.1 hox).1
       have hmem : x.1 ∈ Region.ready .any ops.toArray listed := by
         rw [mem_ready]
         refine ⟨(pend x.1 hlt).2 ⟨x, by simp, rfl⟩, x.2.1, by simpa using hox, fun e he hbe => ?_⟩
         have h1 := hb x.1 x.2.1 hox e he hbe
         rw [isl]
         refine ⟨by omega, fun ⟨y, hy, hye⟩ => ?_⟩
         rcases List.mem_cons.1 hy with rfl | hy
         · omega
         · have := (List.pairwise_cons.1 hsort).1 y hy
           omega
       rw [hre] at hmem
       cases hmem
   · rw [mem_ready] at hi
     obtain ⟨h1, o', ho', hedges⟩ := hi
     have hlt : i < ops.length := by
       have := (Array.getElem?_eq_some_iff.1 ho').1
       simpa using this
     obtain ⟨x, hx, hxi⟩ := (pend i hlt).1 h1
     have hox := hops x hx
     rw [hxi] at hox
     have ho2 : ops[i]? = some o' := by simpa using ho'
     rw [ho2] at hox
     injection hox with hox
     obtain ⟨i', o, e⟩ := x
     simp only at hxi hox
     subst hxi; subst hox
     obtain ⟨pre, post, rfl⟩ := List.append_of_mem hx
     have hind : ∀ y ∈ pre, Indep ops y.2.1 o' y.2.2 e := by
       intro y hy
       have hp := (List.pairwise_append.1 hpair).2.2 y hy (i', o', e) (by simp)
       rcases hp with hp | hp
       · exfalso
         have := bef_spec (ops := ops) (L := fun j => listed.getD j false = true) hcl i' o' ho2 hedges y.1 hp
         rw [isl] at this
         exact this.2 ⟨y, by simp [hy], rfl⟩
       · exact hp
     obtain ⟨h2, h3, h4⟩ := bubble hG.Γ hruns hind
     have hsub : ∀ y ∈ pre ++ post, y ∈ pre ++ (i', o', e) :: post := by
       intro y hy
       rcases List.mem_append.1 hy with hy | hy <;> simp [hy]
     have hne : ∀ y ∈ pre ++ post, y.1 ≠ i' := by
       intro y hy
       have hs := List.pairwise_append.1 hsort
       rcases List.mem_append.1 hy with hy | hy
       · exact Nat.ne_of_lt (hs.2.2 y hy (i', o', e) (by simp))
       · exact Nat.ne_of_gt ((List.pairwise_cons.1 hs.2.1).1 y hy)
     have hsublist : (pre ++ post).Sublist (pre ++ (i', o', e) :: post) := by
       refine List.Sublist.append (List.Sublist.refl _) (List.sublist_cons_self _ _)
     unfold wpOp
     rw [ho']
     refine turn1 hG (l := pre ++ (i', o', e) :: post) (l' := pre ++ post) (M := ops.length) h2 (hobl _ hx) hS hx hlt hsub hne fun ρ' a' w' hS' hρ' => ?_
     refine ih (pre ++ post) _ _ ρ' a' w' ?_ ?_ ?_ (fun y hy => hops y (hsub y hy)) (hsort.sublist hsublist) (hpair.sublist hsublist) (fun y hy => hobl y (hsub y hy)) ?_ h3 (hF.trans h4) hS' ?_
     · simp only [List.length_append, List.length_cons] at hl ⊢; omega
     · simpa using hsz
     · intro j hj
       by_cases hji : i' = j
       · subst hji
         rw [Array.getElem?_setIfInBounds_self_of_lt (by omega)]
         congr 1
         have : ¬ ∃ y ∈ pre ++ post, y.1 = i' := fun ⟨y, hy, hye⟩ => hne y hy hye
         rw [decide_eq_false this]; rfl
       · rw [Array.getElem?_setIfInBounds_ne hji, hli j hj]
         congr 2
         apply decide_eq_decide.2
         constructor
         · rintro ⟨y, hy, hye⟩
           rcases List.mem_append.1 hy with hy | hy
           · exact ⟨y, by simp [hy], hye⟩
           · rcases List.mem_cons.1 hy with rfl | hy
             · exact absurd hye hji
             · exact ⟨y, by simp [hy], hye⟩
         · rintro ⟨y, hy, hye⟩
           exact ⟨y, hsub y hy, hye⟩
     · intro k ok hok hk e' he' hb'
       by_cases hki : i' = k
       · subst hki
         rw [ho2] at hok
         injection hok with hok
         subst hok
         exact getD_set_true (hedges e' he' hb')
       · rw [getD_set_ne false hki] at hk
         exact getD_set_true (hcl k ok hok hk e' he' hb')
     · intro n hn
       have hu : UD N ops.length (pre ++ (i', o', e) :: post) n := by
         have hnN : n < N := Nat.lt_of_lt_of_le hn hN0
         refine ⟨Nat.lt_of_lt_of_le hnN (Nat.le_add_right _ _), fun y _ hy => ?_⟩
         have h5 : N + 12 * y.1 ≤ n := hy.1
         have h6 : N ≤ n := Nat.le_trans (Nat.le_add_right _ _) h5
         exact absurd hnN (Nat.not_lt.2 h6)
       exact (hρ' n hu).trans (hρ n hn)
end
inductive DR where
 | done (s : AS) (log : List Ent)
 | need (j : Nat) (b : Bool)
 | fail
def flag (ops : List Oper) (o : Oper) (s : AS) : DR :=
 match o.guard with
 | some (j, _) => match gdst ops j with
   | some d => match slot s.1 d with
     | some (.bool b) => .need j b
     | _ => .fail
   | none => .fail
 | none => .fail
def runD (G : Ctx) (nt N : Nat) (ops : List Oper) (dec : List (Nat × Bool)) : List Oper → Nat → AS → DR
 | [], _, s => .done s []
 | o :: r, i, s => match step1 G nt N ops dec i o s with
   | some e => match runD G nt N ops dec r (i + 1) (app1 o e s) with
     | .done s' log => .done s' ((i, o, e) :: log)
     | x => x
   | none => flag ops o s
def okAll : List Ent → Prop → Prop
 | [], q => q
 | (_, _, e) :: r, q => okK e.obl (okAll r q)
theorem okAll_iff : ∀ {l : List Ent} {q : Prop}, okAll l q → oblAll l ∧ q
 | [], _, h => ⟨trivial, h⟩
 | (_, _, _) :: _, _, h => ⟨⟨(okK_iff h).1, (okAll_iff (okK_iff h).2).1⟩, (okAll_iff (okK_iff h).2).2⟩
def expl (G : Ctx) (ops : List Oper) (S : St) (K : St → Prop) : Nat → List (Nat × Bool) → Prop
 | fuel, dec => match runD G S.nt S.N ops dec ops 0 (S.sl, S.H) with
   | .done s log => okAll log (chk ops log = true ∧ K { nt := S.nt, sl := s.1, H := s.2, N := S.N + 12 * ops.length })
   | .need j b => match fuel with
     | 0 => False
     | f + 1 => (b = true → expl G ops S K f ((j, true) :: dec)) ∧ (b = false → expl G ops S K f ((j, false) :: dec))
   | .fail => False
section
variable {P : Program} {W0 : World} {Fr : Nat → Prop} {G : Ctx}
theorem runD_spec {nt N : Nat} {ops : List Oper} {dec : List (Nat × Bool)} : ∀ (l : List Oper) (k : Nat) (s s' : AS) (log : List Ent), (∀ j, l[j]? = ops[k + j]?) → runD G nt N ops dec l k s = .done s' log →
   Runs G nt N ops dec log s ∧ fin log s = s' ∧ (∀ x ∈ log, ops[x.1]? = some x.2.1 ∧ k ≤ x.1 ∧ x.1 < k + l.length) ∧ log.Pairwise (fun x y => x.1 < y.1) ∧ (∀ j, k ≤ j → j < k + l.length → ∃ x ∈ log, x.1 = j) ∧ log.length = l.length
 | [], k, s, s', log, _, h => by
   simp only [runD, DR.done.injEq] at h
   obtain ⟨rfl, rfl⟩ := h
   exact ⟨trivial, rfl, by simp, .nil, fun j h1 h2 => by simp at h2; omega, rfl⟩
 | o :: r, k, s, s', log, hl, h => by
   have ho : ops[k]? = some o := by simpa using (hl 0).symm
   simp only [runD] at h
   split at h
   · rename_i e he
     split at h
     · rename_i s1 log1 h1
       simp only [DR.done.injEq] at h
       obtain ⟨rfl, rfl⟩ := h
       obtain ⟨h2, h3, h4, h5, h6, h7⟩ := runD_spec r (k + 1) _ _ _ (fun j => by
         have := hl (j + 1)
         simp only [List.getElem?_cons_succ] at this
         rw [this]; congr 1; omega) h1
       refine ⟨⟨he, h2⟩, h3, ?_, ?_, ?_, by simp [h7]⟩
       · intro x hx
         rcases List.mem_cons.1 hx with rfl | hx
         · exact ⟨ho, Nat.le_refl _, by simp⟩
         · obtain ⟨h8, h9, h10⟩ := h4 x hx
           exact ⟨h8, by omega, by simp; omega⟩
       · refine .cons (fun x hx => ?_) h5
         have := (h4 x hx).2.1
         show k < x.1
         omega
       · intro j hj1 hj2
         by_cases hjk : j = k
         · exact ⟨(k, o, e), by simp, hjk.symm⟩
         · obtain ⟨x, hx, hxj⟩ := h6 j (by omega) (by simp at hj2; omega)
           exact ⟨x, by simp [hx], hxj⟩
     · rename_i x hno
       cases hx : runD G nt N ops dec r (k + 1) (app1 o e s) with
       | done s1 log1 => exact absurd hx (hno s1 log1)
       | need j b => rw [hx] at h; cases h
       | fail => rw [hx] at h; cases h
   · unfold flag at h
     split at h
     · split at h
       · split at h <;> cases h
       · cases h
     · cases h
theorem expl_sound (hG : CtxOk P G) (hm : P.follows .mixedOrders = true) {N0 : Nat} {ρ0 : Rho} {id : Nat} {ops : Array Oper} {S : St} {K : St → Prop} {Q : Exit → Act → World → Prop} : ∀ (fuel : Nat) (dec : List (Nat × Bool)), expl G ops.toList S K fuel dec →
   ∀ {ρ : Rho} {a : Act} {w : World}, Sat W0 Fr S ρ a w → N0 ≤ S.N → (∀ n, n < N0 → ρ n = ρ0 n) → After W0 Fr N0 ρ0 K (Q .normal) → (Code.region id ops true).wp P Q a w := by
 intro fuel
 induction fuel with
 | zero =>
   intro dec h
   unfold expl at h
   split at h
   · rename_i s log hrun
     intro ρ a w hS hN hρ hK
     obtain ⟨hobl, hchk, hq⟩ := okAll_iff h
     simp only [chk, Bool.and_eq_true] at hchk
     obtain ⟨h2, h3, h4, h5, h6, h7⟩ := runD_spec ops.toList 0 _ _ _ (fun j => by simp) hrun
     refine wp_region_any hm ?_
     have := any_order (Q := Q) (W0 := W0) (Fr := Fr) (F := s) (ρ0 := ρ0) hG hchk.1 hN (fun ρ' a' w' hS' hρ' => ?_) log.length log (Array.replicate ops.size false) (S.sl, S.H) ρ a { w with drawn := w.drawn + 1 } rfl (by simp) ?_ (fun x hx => (h4 x hx).1) h5 (chkPairs_spec hchk.2) (oblAll_mem hobl) ?_ h2 ?_ ?_ hρ
     · rw [h7] at this
       simpa using this
     · refine hK _ ρ' a' w' hq ⟨?_, ?_⟩ ?_ hρ'
       · exact hS'.h.mono fun n hn => hn.1
       · exact hS'.s.mono (fun n hn => hn.1) (fun _ _ => rfl)
       · exact Nat.le_trans hN (Nat.le_add_right _ _)
     · intro j hj
       have hj' : j < ops.size := by simpa using hj
       obtain ⟨x, hx, hxj⟩ := h6 j (Nat.zero_le _) (by simpa using hj)
       have : ∃ x ∈ log, x.1 = j := ⟨x, hx, hxj⟩
       simp [hj', this]
     · intro i o _ hl
       rw [Array.getD_eq_getD_getElem?, Array.getElem?_replicate] at hl
       split at hl <;> simp at hl
     · rw [h3]; exact Same.refl _
     · have hU : ∀ n, n < S.N → UD S.N ops.toList.length log n := fun n hn => ⟨Nat.lt_of_lt_of_le hn (Nat.le_add_right _ _), fun x _ hx => absurd (Nat.lt_of_lt_of_le hn (Nat.le_trans (Nat.le_add_right _ _) hx.1)) (Nat.lt_irrefl _)⟩
       exact ⟨(hS.h.mono hU).drew, hS.s.mono hU (fun _ _ => rfl)⟩
   · exact h.elim
   · exact h.elim
 | succ fuel ih =>
   intro dec h
   unfold expl at h
   split at h
   · rename_i s log hrun
     intro ρ a w hS hN hρ hK
     obtain ⟨hobl, hchk, hq⟩ := okAll_iff h
     simp only [chk, Bool.and_eq_true] at hchk
     obtain ⟨h2, h3, h4, h5, h6, h7⟩ := runD_spec ops.toList 0 _ _ _ (fun j => by simp) hrun
     refine wp_region_any hm ?_
     have := any_order (Q := Q) (W0 := W0) (Fr := Fr) (F := s) (ρ0 := ρ0) hG hchk.1 hN (fun ρ' a' w' hS' hρ' => ?_) log.length log (Array.replicate ops.size false) (S.sl, S.H) ρ a { w with drawn := w.drawn + 1 } rfl (by simp) ?_ (fun x hx => (h4 x hx).1) h5 (chkPairs_spec hchk.2) (oblAll_mem hobl) ?_ h2 ?_ ?_ hρ
     · rw [h7] at this
       simpa using this
     · refine hK _ ρ' a' w' hq ⟨?_, ?_⟩ ?_ hρ'
       · exact hS'.h.mono fun n hn => hn.1
       · exact hS'.s.mono (fun n hn => hn.1) (fun _ _ => rfl)
       · exact Nat.le_trans hN (Nat.le_add_right _ _)
     · intro j hj
       have hj' : j < ops.size := by simpa using hj
       obtain ⟨x, hx, hxj⟩ := h6 j (Nat.zero_le _) (by simpa using hj)
       have : ∃ x ∈ log, x.1 = j := ⟨x, hx, hxj⟩
       simp [hj', this]
     · intro i o _ hl
       rw [Array.getD_eq_getD_getElem?, Array.getElem?_replicate] at hl
       split at hl <;> simp at hl
     · rw [h3]; exact Same.refl _
     · have hU : ∀ n, n < S.N → UD S.N ops.toList.length log n := fun n hn => ⟨Nat.lt_of_lt_of_le hn (Nat.le_add_right _ _), fun x _ hx => absurd (Nat.lt_of_lt_of_le hn (Nat.le_trans (Nat.le_add_right _ _) hx.1)) (Nat.lt_irrefl _)⟩
       exact ⟨(hS.h.mono hU).drew, hS.s.mono hU (fun _ _ => rfl)⟩
   · rename_i j b hrun
     intro ρ a w hS hN hρ hK
     cases b with
     | true => exact ih _ (h.1 rfl) hS hN hρ hK
     | false => exact ih _ (h.2 rfl) hS hN hρ hK
   · exact h.elim
end
end Go.Sx

namespace Go.Sx
open Go.RowKit
inductive Xt where
 | normal
 | exit (id : Nat)
 | ret
def Refines (N0 : Nat) (S S' : St) : Prop :=
 N0 ≤ S'.N ∧ ∀ W0 Fr ρ a w, Sat W0 Fr S ρ a w → ∃ ρ', Sat W0 Fr S' ρ' a w ∧ ∀ n, n < N0 → ρ' n = ρ n
structure LoopOk (N0 : Nat) (body : St → (Xt → St → Prop) → Prop) (S : St) (K : Xt → St → Prop) : Prop where
 ex : ∃ (ι : Type) (I : ι → St) (μ : ι → Nat) (i0 : ι), Refines N0 S (I i0) ∧
   ∀ i, body (I i) (fun e S' => match e with
     | .normal => ∃ i', μ i' < μ i ∧ Refines N0 S' (I i')
     | e => K e S')
def runC (G : Ctx) (N0 : Nat) : Code → St → (Xt → St → Prop) → Prop
 | .skip, S, K => K .normal S
 | .region _ ops draw, S, K => match draw with
   | false => runOps G ops.toList ops.toList S (K .normal)
   | true => expl G ops.toList S (K .normal) 20 []
 | .seq x y, S, K => runC G N0 x S (fun e S' => match e with
   | .normal => runC G N0 y S' K
   | e => K e S')
 | .cond c x y, S, K => match opr S.sl c with
   | some .tt => runC G N0 x S K
   | some .ff => runC G N0 y S K
   | some (.bool b) => (b = true → runC G N0 x S K) ∧ (b = false → runC G N0 y S K)
   | _ => False
 | .block id x, S, K => runC G N0 x S (fun e S' => match e with
   | .exit j => match Nat.beq j id with
     | true => K .normal S'
     | false => K (.exit j) S'
   | e => K e S')
 | .exit id, S, K => K (.exit id) S
 | .ret, S, K => K .ret S
 | .loop x, S, K => LoopOk N0 (runC G N0 x) S K
 | _, _, _ => False
section
variable {P : Program} {W0 : World} {Fr : Nat → Prop} {G : Ctx}
def AfterX (W0 : World) (Fr : Nat → Prop) (N0 : Nat) (ρ0 : Rho) (K : Xt → St → Prop) (Q : Exit → Act → World → Prop) : Prop :=
 ∀ e S' ρ' a' w', K e S' → Sat W0 Fr S' ρ' a' w' → N0 ≤ S'.N → (∀ n, n < N0 → ρ' n = ρ0 n) →
   match e with
   | .normal => Q .normal a' w'
   | .exit id => Q (.exit id) a' w'
   | .ret => Q .ret a' w'
theorem wp_loop_ghost {Q : Exit → Act → World → Prop} {c : Code} {ι : Type} (J : ι → Act → World → Prop) (μ : ι → Nat)
   (round : ∀ i a w, J i a w → c.wp P (Exit.then (fun a' w' => ∃ i', J i' a' w' ∧ μ i' < μ i) Q) a w) {i0 : ι} {a : Act} {w : World} (h0 : J i0 a w) : (Code.loop c).wp P Q a w := by
 classical
 have least : ∀ a w, (∃ i, J i a w) → ∃ i, J i a w ∧ ∀ j, J j a w → μ i ≤ μ j := by
   intro a w ⟨i, hi⟩
   have key : ∀ n (i : ι), J i a w → μ i = n → ∃ i, J i a w ∧ ∀ j, J j a w → μ i ≤ μ j := by
     intro n
     induction n using Nat.strongRecOn with
     | _ n ih =>
       intro i hi hn
       by_cases h : ∃ j, J j a w ∧ μ j < μ i
       · obtain ⟨j, hj, hlt⟩ := h
         exact ih (μ j) (hn ▸ hlt) j hj rfl
       · exact ⟨i, hi, fun j hj => Nat.le_of_not_lt fun hlt => h ⟨j, hj, hlt⟩⟩
   exact key _ i hi rfl
 let m : Act → World → Nat := fun a w => if h : ∃ i, J i a w then μ (Classical.choose (least a w h)) else 0
 refine wp_loop (fun a w => ∃ i, J i a w) m ⟨i0, h0⟩ fun a w hI => ?_
 obtain ⟨h1, h2⟩ := Classical.choose_spec (least a w hI)
 refine wp_mono (round _ a w h1) fun e a' w' hq => ?_
 cases e with
 | normal =>
   obtain ⟨i', hi', hlt⟩ := hq
   refine ⟨⟨i', hi'⟩, ?_⟩
   have hI' : ∃ i, J i a' w' := ⟨i', hi'⟩
   obtain ⟨h3, h4⟩ := Classical.choose_spec (least a' w' hI')
   show m a' w' < m a w
   simp only [m, dif_pos hI', dif_pos hI]
   exact Nat.lt_of_le_of_lt (h4 i' hi') hlt
 | exit id => exact hq
 | goto l => exact hq
 | ret => exact hq
 | panic ch => exact hq
 | outgrown => exact hq
theorem runC_sound (hG : CtxOk P G) {N0 : Nat} {ρ0 : Rho} : ∀ (c : Code) {S : St} {ρ : Rho} {a : Act} {w : World} {K : Xt → St → Prop} {Q : Exit → Act → World → Prop}, runC G N0 c S K → Sat W0 Fr S ρ a w → N0 ≤ S.N →
   (∀ n, n < N0 → ρ n = ρ0 n) → AfterX W0 Fr N0 ρ0 K Q → c.wp P Q a w := by
 intro c
 induction c with
 | skip => intro S ρ a w K Q h hS hN hρ hK; exact wp_skip (hK .normal S ρ a w h hS hN hρ)
 | region id ops draw =>
   intro S ρ a w K Q h hS hN hρ hK
   cases draw with
   | false =>
     simp only [runC] at h
     refine wp_region ?_
     have := runOps_sound hG (Q := Q) ops.toList 0 (fun j => by simp) h hS hN hρ (fun S' ρ' a' w' h' hS' hN' hρ' => hK .normal S' ρ' a' w' h' hS' hN' hρ')
     rw [List.range_eq_range']
     simpa using this
   | true =>
     simp only [runC] at h
     exact expl_sound hG hG.mix 20 [] h hS hN hρ (fun S' ρ' a' w' h' hS' hN' hρ' => hK .normal S' ρ' a' w' h' hS' hN' hρ')
 | seq x y ihx ihy =>
   intro S ρ a w K Q h hS hN hρ hK
   simp only [runC] at h
   refine wp_seq (ihx h hS hN hρ fun e S' ρ' a' w' h' hS' hN' hρ' => ?_)
   cases e with
   | normal => exact ihy h' hS' hN' hρ' hK
   | exit id => exact hK (.exit id) S' ρ' a' w' h' hS' hN' hρ'
   | ret => exact hK .ret S' ρ' a' w' h' hS' hN' hρ'
 | cond c x y ihx ihy =>
   intro S ρ a w K Q h hS hN hρ hK
   simp only [runC] at h
   split at h
   · rename_i hv
     exact wp_cond_true (by simpa [SV.den] using (opr_sat hS.s hv).1) (ihx h hS hN hρ hK)
   · rename_i hv
     exact wp_cond_false (by simpa [SV.den] using (opr_sat hS.s hv).1) (ihy h hS hN hρ hK)
   · rename_i b hv
     have hb := (opr_sat hS.s hv).1
     simp only [SV.den] at hb
     exact wp_cond_split hb (fun e => ihx (h.1 e) hS hN hρ hK) (fun e => ihy (h.2 e) hS hN hρ hK)
   · exact h.elim
 | block id x ih =>
   intro S ρ a w K Q h hS hN hρ hK
   simp only [runC] at h
   refine wp_block (ih h hS hN hρ fun e S' ρ' a' w' h' hS' hN' hρ' => ?_)
   cases e with
   | normal => exact hK .normal S' ρ' a' w' h' hS' hN' hρ'
   | ret => exact hK .ret S' ρ' a' w' h' hS' hN' hρ'
   | exit j =>
     simp only at h'
     simp only [Exit.inBlock]
     split at h'
     · rename_i hj
       rw [if_pos (Nat.eq_of_beq_eq_true hj)]
       exact hK .normal S' ρ' a' w' h' hS' hN' hρ'
     · rename_i hj
       rw [if_neg (fun e => by subst e; simp at hj)]
       exact hK (.exit j) S' ρ' a' w' h' hS' hN' hρ'
 | exit id => intro S ρ a w K Q h hS hN hρ hK; exact wp_exit (hK (.exit id) S ρ a w h hS hN hρ)
 | ret => intro S ρ a w K Q h hS hN hρ hK; exact wp_ret (hK .ret S ρ a w h hS hN hρ)
 | loop x ih =>
   intro S ρ a w K Q h hS hN hρ hK
   simp only [runC] at h
   obtain ⟨ι, I, μ, i0, h0, hr⟩ := h.ex
   have start : ∀ {S1 : St} {i : ι}, Refines N0 S1 (I i) → ∀ {ρ1 a1 w1}, Sat W0 Fr S1 ρ1 a1 w1 → (∀ n, n < N0 → ρ1 n = ρ0 n) →
       ∃ ρ', Sat W0 Fr (I i) ρ' a1 w1 ∧ N0 ≤ (I i).N ∧ ∀ n, n < N0 → ρ' n = ρ0 n := by
     intro S1 i hR ρ1 a1 w1 hS1 hρ1
     obtain ⟨ρ', h1, h2⟩ := hR.2 W0 Fr ρ1 a1 w1 hS1
     exact ⟨ρ', h1, hR.1, fun n hn => (h2 n hn).trans (hρ1 n hn)⟩
   refine wp_loop_ghost (fun i a w => ∃ ρ', Sat W0 Fr (I i) ρ' a w ∧ N0 ≤ (I i).N ∧ ∀ n, n < N0 → ρ' n = ρ0 n) μ ?_ (start h0 hS hρ)
   rintro i a1 w1 ⟨ρ1, hS1, hN1, hρ1⟩
   refine ih (hr i) hS1 hN1 hρ1 fun e S' ρ' a' w' h' hS' hN' hρ' => ?_
   cases e with
   | normal =>
     obtain ⟨i', hlt, hR⟩ := h'
     exact ⟨i', start hR hS' hρ', hlt⟩
   | exit id => exact hK (.exit id) S' ρ' a' w' h' hS' hN' hρ'
   | ret => exact hK .ret S' ρ' a' w' h' hS' hN' hρ'
 | _ => intro S ρ a w K Q h; exact (h : False).elim
def resV (T : Tys) (S : St) : ResultVar → Option (SV × Option Prop)
 | .tmp t => match slot S.sl t with
   | some v => some (v, none)
   | none => none
 | .cell a t => match slot S.sl a with
   | some (.ptr n i) => match ty T t with
     | some ti => match Nat.ble 1 ti.size with
       | true => match look S.H n with
         | some ob => evLoad ti ob.c i
         | none => none
       | false => none
     | none => none
   | _ => none
def resL (T : Tys) (S : St) : List ResultVar → Option (List SV × Option Prop)
 | [] => some ([], none)
 | x :: r => match resV T S x with
   | some (v, p) => match resL T S r with
     | some (vs, q) => some (v :: vs, match p, q with
       | none, q => q
       | p, none => p
       | some p, some q => some (p ∧ q))
     | none => none
   | none => none
def resS (vs : List SV) : SV :=
 match vs with
 | [v] => v
 | vs => .tup vs
def rdRes (a : Array Value) : ResultVar → Sem Value
 | .tmp t => pure (a.getD t undef)
 | .cell a' t => do loadVar t (← asAddr (a.getD a' undef))
theorem results_eq (fn : Func) (a : Array Value) : results fn a = (do
   let vs ← fn.results.mapM (rdRes a)
   pure (if h : vs.size = 1 then vs[0] else .tuple vs)) := by
 unfold results
 congr 1
theorem resV_sound {T : Tys} (hT : TysOk P T) {S : St} {ρ : Rho} {a : Act} {w : World} (hS : Sat W0 Fr S ρ a w) {x : ResultVar} {v : SV} {p : Option Prop} (h : resV T S x = some (v, p)) (hp : okP p) :
   (rdRes a.tmps x).run P w = .ok (v.den ρ) w ∧ v.bd (· < S.N) := by
 cases x with
 | tmp t =>
   simp only [resV] at h
   split at h
   · rename_i u hu
     simp only [Option.some.injEq, Prod.mk.injEq] at h
     obtain ⟨rfl, rfl⟩ := h
     have := hS.s.val _ _ hu
     exact ⟨by simp [rdRes, Array.getD_eq_getD_getElem?, this], hS.s.bd _ _ hu⟩
   · cases h
 | cell a' t =>
   simp only [resV] at h
   split at h
   · rename_i n i hn
     split at h
     · rename_i ti hti
       split at h
       · rename_i hsz
         split at h
         · rename_i ob hob
           obtain ⟨h1, h2⟩ := evLoad_sound (hT t ti hti) hS.h hob h hp (fun _ => Nat.le_of_ble_eq_true hsz)
           refine ⟨?_, h2⟩
           have hv := hS.s.val _ _ hn
           simp only [SV.den] at hv
           simp only [rdRes, Array.getD_eq_getD_getElem?, hv, Option.getD_some]
           simp only [Instr.loadAt] at h1
           rw [← h1]
           cases ha : ρ.addr n i with
           | none => rw [ha] at h1; simp [Instr.sureAddr] at h1
           | some ad => simp [Instr.sureAddr, asAddr]
         · cases h
       · cases h
     · cases h
   · cases h
theorem resL_sound {T : Tys} (hT : TysOk P T) {S : St} {ρ : Rho} {a : Act} {w : World} (hS : Sat W0 Fr S ρ a w) : ∀ {xs : List ResultVar} {vs : List SV} {p : Option Prop}, resL T S xs = some (vs, p) → okP p →
   (xs.mapM (rdRes a.tmps)).run P w = .ok (denL ρ vs) w ∧ bdL (· < S.N) vs
 | [], vs, p, h, hp => by
   simp only [resL, Option.some.injEq, Prod.mk.injEq] at h
   obtain ⟨rfl, rfl⟩ := h
   simp [denL, bdL]
 | x :: r, vs, p, h, hp => by
   simp only [resL] at h
   split at h
   · rename_i v p1 h1
     split at h
     · rename_i us q h2
       simp only [Option.some.injEq, Prod.mk.injEq] at h
       obtain ⟨rfl, rfl⟩ := h
       have hpq : okP p1 ∧ okP q := by
         cases p1 <;> cases q <;> first | exact ⟨trivial, trivial⟩ | exact ⟨trivial, hp⟩ | exact ⟨hp, trivial⟩ | exact hp
       obtain ⟨h3, h4⟩ := resV_sound hT hS h1 hpq.1
       obtain ⟨h5, h6⟩ := resL_sound hT hS h2 hpq.2
       refine ⟨?_, h4, h6⟩
       simp only [List.mapM_cons, Sem.run_bind, h3, h5, Result.andThen_ok, Sem.run_pure, denL]
     · cases h
   · cases h
theorem resS_sound {T : Tys} (hT : TysOk P T) {S : St} {ρ : Rho} {a : Act} {w : World} (hS : Sat W0 Fr S ρ a w) {fn : Func} {vs : List SV} {p : Option Prop} (h : resL T S fn.results.toList = some (vs, p)) (hp : okP p) :
   (results fn a.tmps).run P w = .ok ((resS vs).den ρ) w ∧ (resS vs).bd (· < S.N) := by
 obtain ⟨h1, h2⟩ := resL_sound hT hS h hp
 have h3 : (fn.results.mapM (rdRes a.tmps)).run P w = .ok (denL ρ vs).toArray w := by
   rw [← Array.toArray_toList (xs := fn.results), List.mapM_toArray]
   simp only [Sem.run_map, h1, Result.andThen_ok]
 rw [results_eq]
 simp only [Sem.run_bind]
 rw [h3]
 simp only [Result.andThen_ok, Sem.run_pure]
 match vs with
 | [v] => exact ⟨by simp [denL, resS], by simpa [resS, bdL] using h2⟩
 | [] => exact ⟨by simp [denL, resS, SV.den], by simp [resS, SV.bd, bdL]⟩
 | v :: u :: r => exact ⟨by simp [denL, resS, SV.den], by simpa [resS, SV.bd] using h2⟩
end
mutual
def eqv : SV → SV → Prop
 | .tt, .tt => True
 | .ff, .ff => True
 | .tt, .bool b => b = true
 | .ff, .bool b => b = false
 | .bool b, .tt => b = true
 | .bool b, .ff => b = false
 | .bool a, .bool b => a = b
 | .int k a, .int k' b => match kEq k k' with
   | true => a = b
   | false => False
 | .flt k a, .flt k' b => match fkEq k k' with
   | true => a = b
   | false => False
 | .str a, .str b => a = b
 | .ptr n o, .ptr n' o' => match Nat.beq n n' with
   | true => o = o'
   | false => False
 | .nilp, .nilp => True
 | .slc n o l c, .slc n' o' l' c' => match Nat.beq n n' with
   | true => o = o' ∧ l = l' ∧ c = c'
   | false => False
 | .nils, .nils => True
 | .slcc n l, .slcc n' l' => match Nat.beq n n' with
   | true => l = l'
   | false => False
 | .agg a, .agg b => eqvL a b
 | .tup a, .tup b => eqvL a b
 | .ifc t v, .ifc t' v' => match Nat.beq t t' with
   | true => eqv v v'
   | false => False
 | .nili, .nili => True
 | .fn f a c, .fn f' a' c' => f = f' ∧ eqvL a a' ∧ eqvL c c'
 | .nilf, .nilf => True
 | _, _ => False
def eqvL : List SV → List SV → Prop
 | [], [] => True
 | x :: xs, y :: ys => eqv x y ∧ eqvL xs ys
 | _, _ => False
end
mutual
theorem eqv_den (ρ : Rho) : ∀ (x y : SV), eqv x y → x.den ρ = y.den ρ
 | .slcc n l, y, h => by
   cases y <;> simp only [eqv] at h
   split at h
   · rename_i ht; have := Nat.eq_of_beq_eq_true ht; subst this; simp [SV.den, h]
   · exact h.elim
 | .agg a, y, h => by cases y <;> simp only [eqv] at h; simp [SV.den, eqvL_den ρ a _ h]
 | .tup a, y, h => by cases y <;> simp only [eqv] at h; simp [SV.den, eqvL_den ρ a _ h]
 | .ifc t v, y, h => by
   cases y <;> simp only [eqv] at h
   split at h
   · rename_i ht; have := Nat.eq_of_beq_eq_true ht; subst this; simp [SV.den, eqv_den ρ v _ h]
   · exact h.elim
 | .fn f a c, y, h => by
   cases y <;> simp only [eqv] at h
   obtain ⟨rfl, h1, h2⟩ := h
   simp [SV.den, eqvL_den ρ a _ h1, eqvL_den ρ c _ h2]
 | .int k a, y, h => by
   cases y <;> simp only [eqv] at h
   split at h
   · rename_i ht; have := kEq_eq ht; subst this; simp [SV.den, h]
   · exact h.elim
 | .flt k a, y, h => by
   cases y <;> simp only [eqv] at h
   split at h
   · rename_i ht; have := fkEq_eq ht; subst this; simp [SV.den, h]
   · exact h.elim
 | .ptr n o, y, h => by
   cases y <;> simp only [eqv] at h
   split at h
   · rename_i ht; have := Nat.eq_of_beq_eq_true ht; subst this; simp [SV.den, h]
   · exact h.elim
 | .slc n o l c, y, h => by
   cases y <;> simp only [eqv] at h
   split at h
   · rename_i ht; have := Nat.eq_of_beq_eq_true ht; subst this; simp [SV.den, h]
   · exact h.elim
 | .tt, y, h | .ff, y, h | .bool _, y, h | .str _, y, h | .nilp, y, h | .nils, y, h | .nili, y, h | .nilf, y, h | .sla _ _ _, y, h => by
   cases y <;> simp_all [eqv, SV.den]
theorem eqvL_den (ρ : Rho) : ∀ (x y : List SV), eqvL x y → denL ρ x = denL ρ y
 | [], y, h => by cases y <;> simp_all [eqvL]
 | x :: r, y, h => by
   cases y with
   | nil => simp [eqvL] at h
   | cons u s => simp only [eqvL] at h; simp [denL, eqv_den ρ x u h.1, eqvL_den ρ r s h.2]
end
def initSl : Nat → List SV → Slots
 | _, [] => []
 | i, v :: r => (i, v) :: initSl (i + 1) r
theorem slot_initSl : ∀ (l : List SV) (i t : Nat), slot (initSl i l) t = if i ≤ t then l[t - i]? else none
 | [], i, t => by simp [initSl, slot]
 | v :: r, i, t => by
   simp only [initSl, slot_cons, slot_initSl r (i + 1) t]
   by_cases h : i = t
   · subst h; simp
   · rw [if_neg h]
     by_cases h2 : i ≤ t
     · rw [if_pos h2, if_pos (by omega)]
       rw [show t - i = (t - (i + 1)) + 1 by omega]
       simp
     · rw [if_neg h2, if_neg (by omega)]
def init (nt : Nat) (args : List SV) (H : Heap) (N : Nat) : St := { nt := nt, sl := initSl 0 args, H := H, N := N }
theorem sat_init {W0 : World} {Fr : Nat → Prop} {nt N : Nat} {args : List SV} {H : Heap} {ρ : Rho} {w : World} (hH : HSat W0 Fr (· < N) H ρ w) (hb : bdL (· < N) args) (hl : args.length ≤ nt) :
   Sat W0 Fr (init nt args H N) ρ { tmps := (denL ρ args).toArray ++ Array.replicate (nt - (denL ρ args).toArray.size) undef, defers := [] } w where
 h := hH
 s := {
   nd := rfl
   size := by simp [denL_eq, init]; omega
   bd := fun t v hv => by
     simp only [init, slot_initSl, Nat.zero_le, if_true, Nat.sub_zero] at hv
     exact (bdL_iff _ _).1 hb v (List.mem_of_getElem? hv)
   val := fun t v hv => by
     simp only [init, slot_initSl, Nat.zero_le, if_true, Nat.sub_zero] at hv
     obtain ⟨h1, h2⟩ := List.getElem?_eq_some_iff.1 hv
     simp [denL_eq, Array.getElem?_append, h1, h2] }
def retK (T : Tys) (rs : List ResultVar) (K : St → SV → Prop) (S : St) : Prop :=
 match resL T S rs with
 | some (vs, p) => okK p (K S (resS vs))
 | none => False
def endK (T : Tys) (rs : List ResultVar) (K : St → SV → Prop) (e : Xt) (S : St) : Prop :=
 match e with
 | .exit _ => False
 | _ => retK T rs K S
theorem pure_of_run {P : Program} {G : Ctx} (hG : CtxOk P G) {f : Nat} {fn : Func} {c : Code} (hf : P.funcs[f]? = some fn) (hb : fn.body = some c) (hnm : (fn.name == "runtime.NumGoroutine") = false) {F : PF}
   (h : ∀ args v p, F args = some (v, p) → okP p → v.closed = true ∧ closedL args = true ∧ Nat.ble args.length fn.ntmps = true ∧
     runC G 0 c (init fn.ntmps args [] 0) (endK G.E.T fn.results.toList fun _ v' => eqv v' v)) : PureOk P f F := by
 intro args v p hF hp
 obtain ⟨h1, h2, h3, h4⟩ := h args v p hF hp
 refine ⟨h1, fun ρ w => .inl ⟨⟨fn, hf, hnm, by rw [hb]; rfl⟩, ?_⟩⟩
 refine calls_of_wp hf hb ?_
 have hH : HSat w (· < w.heap.size) (· < 0) [] ρ w :=
   { os := rfl, tape := rfl, output := rfl, size := Nat.le_refl _, frlt := fun _ h => h, frame := fun _ _ => rfl
     used := fun n o hn => by simp [look] at hn
     bd := fun n o hn => by simp [look] at hn
     obj := fun n o hn => by simp [look] at hn
     inj := fun n m o o' p q hn => by simp [look] at hn
     free := fun n o p hn => by simp [look] at hn }
 refine runC_sound hG (ρ0 := ρ) c h4 (sat_init hH (bdL_closed _ _ h2) (Nat.le_of_ble_eq_true h3)) (Nat.zero_le _) (fun _ _ => rfl) ?_
 intro e S' ρ' a' w' hK hS hN hρ
 have fin : retK G.E.T fn.results.toList (fun _ v' => eqv v' v) S' → a'.defers = [] ∧ ∃ u, (results fn a'.tmps).run P w' = .ok u w' ∧ (Ending.returned u = .returned (v.den ρ) ∧ Below w.heap.size w w') := by
   intro hr
   unfold retK at hr
   split at hr
   · rename_i vs q hvs
     obtain ⟨hq, he⟩ := okK_iff hr
     obtain ⟨h5, h6⟩ := resS_sound hG.E.T hS hvs hq
     refine ⟨hS.s.nd, _, h5, ?_, ⟨hS.h.os, hS.h.tape, hS.h.output, hS.h.size, fun k hk => hS.h.frame k hk⟩⟩
     rw [eqv_den ρ' _ _ he, SV.den_closed ρ ρ' h1]
   · exact hr.elim
 cases e with
 | normal => exact fin hK
 | ret => exact fin hK
 | exit id => exact hK.elim
end Go.Sx

namespace Go.Proofs.Tryz.Sx
open Go Go.Sx Go.Proofs
set_option maxRecDepth 100000
def ty2 : TI := ⟨.int .i64, 1, 8, .cells [.int .i64 0], []⟩
theorem ok2 : TOk Tryz.prog 2 ty2 := TOk.mk' (by kernel_rfl) (by kernel_rfl) (by kernel_rfl) (by kernel_rfl) (by kernel_rfl) no_ms (by kernel_rfl)
def ty3 : TI := ⟨.int .i64, 1, 8, .cells [.int .i64 0], []⟩
theorem ok3 : TOk Tryz.prog 3 ty3 := TOk.mk' (by kernel_rfl) (by kernel_rfl) (by kernel_rfl) (by kernel_rfl) (by kernel_rfl) no_ms (by kernel_rfl)
def ty4 : TI := ⟨.bool, 1, 1, .cells [.ff], []⟩
theorem ok4 : TOk Tryz.prog 4 ty4 := TOk.mk' (by kernel_rfl) (by kernel_rfl) (by kernel_rfl) (by kernel_rfl) (by kernel_rfl) no_ms (by kernel_rfl)
def ty5 : TI := ⟨.int .u8, 1, 1, .cells [.int .u8 0], []⟩
theorem ok5 : TOk Tryz.prog 5 ty5 := TOk.mk' (by kernel_rfl) (by kernel_rfl) (by kernel_rfl) (by kernel_rfl) (by kernel_rfl) no_ms (by kernel_rfl)
def ty6 : TI := ⟨.int .u8, 1, 1, .cells [.int .u8 0], []⟩
theorem ok6 : TOk Tryz.prog 6 ty6 := TOk.mk' (by kernel_rfl) (by kernel_rfl) (by kernel_rfl) (by kernel_rfl) (by kernel_rfl) no_ms (by kernel_rfl)
def ty7 : TI := ⟨.struct [(0, 2), (1, 3), (2, 4), (3, 6)], 4, 24, .cells [.int .i64 0, .int .i64 0, .ff, .int .u8 0], []⟩
theorem ok7 : TOk Tryz.prog 7 ty7 := TOk.mk' (by kernel_rfl) (by kernel_rfl) (by kernel_rfl) (by kernel_rfl) (by kernel_rfl) no_ms (by kernel_rfl)
def ty8 : TI := ⟨.struct [(0, 2), (1, 3), (2, 4), (3, 6)], 4, 24, .cells [.int .i64 0, .int .i64 0, .ff, .int .u8 0], []⟩
theorem ok8 : TOk Tryz.prog 8 ty8 := TOk.mk' (by kernel_rfl) (by kernel_rfl) (by kernel_rfl) (by kernel_rfl) (by kernel_rfl) no_ms (by kernel_rfl)
def ty9 : TI := ⟨.str, 1, 16, .cells [.str ⟨#[]⟩], []⟩
theorem ok9 : TOk Tryz.prog 9 ty9 := TOk.mk' (by kernel_rfl) (by kernel_rfl) (by kernel_rfl) (by kernel_rfl) (by kernel_rfl) no_ms (by kernel_rfl)
def ty10 : TI := ⟨.str, 1, 16, .cells [.str ⟨#[]⟩], []⟩
theorem ok10 : TOk Tryz.prog 10 ty10 := TOk.mk' (by kernel_rfl) (by kernel_rfl) (by kernel_rfl) (by kernel_rfl) (by kernel_rfl) no_ms (by kernel_rfl)
def ty11 : TI := ⟨.str, 1, 16, .cells [.str ⟨#[]⟩], []⟩
theorem ok11 : TOk Tryz.prog 11 ty11 := TOk.mk' (by kernel_rfl) (by kernel_rfl) (by kernel_rfl) (by kernel_rfl) (by kernel_rfl) no_ms (by kernel_rfl)
def ty12 : TI := ⟨.int .u64, 1, 8, .cells [.int .u64 0], []⟩
theorem ok12 : TOk Tryz.prog 12 ty12 := TOk.mk' (by kernel_rfl) (by kernel_rfl) (by kernel_rfl) (by kernel_rfl) (by kernel_rfl) no_ms (by kernel_rfl)
def ty13 : TI := ⟨.struct [(0, 9), (1, 12)], 2, 24, .cells [.str ⟨#[]⟩, .int .u64 0], []⟩
theorem ok13 : TOk Tryz.prog 13 ty13 := TOk.mk' (by kernel_rfl) (by kernel_rfl) (by kernel_rfl) (by kernel_rfl) (by kernel_rfl) no_ms (by kernel_rfl)
def ty14 : TI := ⟨.struct [(0, 9), (1, 12)], 2, 24, .cells [.str ⟨#[]⟩, .int .u64 0], []⟩
theorem ok14 : TOk Tryz.prog 14 ty14 := TOk.mk' (by kernel_rfl) (by kernel_rfl) (by kernel_rfl) (by kernel_rfl) (by kernel_rfl) no_ms (by kernel_rfl)
def ty15 : TI := ⟨.ptr 225, 1, 8, .cells [.nilp], []⟩
theorem ok15 : TOk Tryz.prog 15 ty15 := TOk.mk' (by kernel_rfl) (by kernel_rfl) (by kernel_rfl) (by kernel_rfl) (by kernel_rfl) no_ms (by kernel_rfl)
def ty16 : TI := ⟨.ptr 228, 1, 8, .cells [.nilp], []⟩
theorem ok16 : TOk Tryz.prog 16 ty16 := TOk.mk' (by kernel_rfl) (by kernel_rfl) (by kernel_rfl) (by kernel_rfl) (by kernel_rfl) no_ms (by kernel_rfl)
def ty17 : TI := ⟨.ptr 236, 1, 8, .cells [.nilp], []⟩
theorem ok17 : TOk Tryz.prog 17 ty17 := TOk.mk' (by kernel_rfl) (by kernel_rfl) (by kernel_rfl) (by kernel_rfl) (by kernel_rfl) no_ms (by kernel_rfl)
def ty18 : TI := ⟨.struct [(0, 17)], 1, 8, .cells [.nilp], []⟩
theorem ok18 : TOk Tryz.prog 18 ty18 := TOk.mk' (by kernel_rfl) (by kernel_rfl) (by kernel_rfl) (by kernel_rfl) (by kernel_rfl) no_ms (by kernel_rfl)
def ty19 : TI := ⟨.struct [(0, 17)], 1, 8, .cells [.nilp], []⟩
theorem ok19 : TOk Tryz.prog 19 ty19 := TOk.mk' (by kernel_rfl) (by kernel_rfl) (by kernel_rfl) (by kernel_rfl) (by kernel_rfl) no_ms (by kernel_rfl)
def ty20 : TI := ⟨.iface, 1, 16, .cells [.nili], []⟩
theorem ok20 : TOk Tryz.prog 20 ty20 := TOk.mk' (by kernel_rfl) (by kernel_rfl) (by kernel_rfl) (by kernel_rfl) (by kernel_rfl) no_ms (by kernel_rfl)
def ty21 : TI := ⟨.int .i32, 1, 4, .cells [.int .i32 0], []⟩
theorem ok21 : TOk Tryz.prog 21 ty21 := TOk.mk' (by kernel_rfl) (by kernel_rfl) (by kernel_rfl) (by kernel_rfl) (by kernel_rfl) no_ms (by kernel_rfl)
def ty22 : TI := ⟨.struct [(0, 2), (1, 2)], 2, 16, .cells [.int .i64 0, .int .i64 0], []⟩
theorem ok22 : TOk Tryz.prog 22 ty22 := TOk.mk' (by kernel_rfl) (by kernel_rfl) (by kernel_rfl) (by kernel_rfl) (by kernel_rfl) no_ms (by kernel_rfl)
def ty23 : TI := ⟨.struct [(0, 2), (1, 2)], 2, 16, .cells [.int .i64 0, .int .i64 0], []⟩
theorem ok23 : TOk Tryz.prog 23 ty23 := TOk.mk' (by kernel_rfl) (by kernel_rfl) (by kernel_rfl) (by kernel_rfl) (by kernel_rfl) no_ms (by kernel_rfl)
def ty24 : TI := ⟨.array 2 23, 4, 32, .cells [.int .i64 0, .int .i64 0, .int .i64 0, .int .i64 0], []⟩
theorem ok24 : TOk Tryz.prog 24 ty24 := TOk.mk' (by kernel_rfl) (by kernel_rfl) (by kernel_rfl) (by kernel_rfl) (by kernel_rfl) no_ms (by kernel_rfl)
def ty25 : TI := ⟨.slice 23, 1, 24, .cells [.nils], []⟩
theorem ok25 : TOk Tryz.prog 25 ty25 := TOk.mk' (by kernel_rfl) (by kernel_rfl) (by kernel_rfl) (by kernel_rfl) (by kernel_rfl) no_ms (by kernel_rfl)
def ty26 : TI := ⟨.slice 28, 1, 24, .cells [.nils], []⟩
theorem ok26 : TOk Tryz.prog 26 ty26 := TOk.mk' (by kernel_rfl) (by kernel_rfl) (by kernel_rfl) (by kernel_rfl) (by kernel_rfl) no_ms (by kernel_rfl)
def ty28 : TI := ⟨.struct [(0, 2), (1, 2)], 2, 16, .cells [.int .i64 0, .int .i64 0], []⟩
theorem ok28 : TOk Tryz.prog 28 ty28 := TOk.mk' (by kernel_rfl) (by kernel_rfl) (by kernel_rfl) (by kernel_rfl) (by kernel_rfl) no_ms (by kernel_rfl)
def ty29 : TI := ⟨.array 2 28, 4, 32, .cells [.int .i64 0, .int .i64 0, .int .i64 0, .int .i64 0], []⟩
theorem ok29 : TOk Tryz.prog 29 ty29 := TOk.mk' (by kernel_rfl) (by kernel_rfl) (by kernel_rfl) (by kernel_rfl) (by kernel_rfl) no_ms (by kernel_rfl)
def ty37 : TI := ⟨.slice 25, 1, 24, .cells [.nils], []⟩
theorem ok37 : TOk Tryz.prog 37 ty37 := TOk.mk' (by kernel_rfl) (by kernel_rfl) (by kernel_rfl) (by kernel_rfl) (by kernel_rfl) no_ms (by kernel_rfl)
def ty38 : TI := ⟨.struct [(0, 2), (1, 25), (2, 37)], 3, 56, .cells [.int .i64 0, .nils, .nils], []⟩
theorem ok38 : TOk Tryz.prog 38 ty38 := TOk.mk' (by kernel_rfl) (by kernel_rfl) (by kernel_rfl) (by kernel_rfl) (by kernel_rfl) no_ms (by kernel_rfl)
def ty39 : TI := ⟨.struct [(0, 2), (1, 25), (2, 37)], 3, 56, .cells [.int .i64 0, .nils, .nils], []⟩
theorem ok39 : TOk Tryz.prog 39 ty39 := TOk.mk' (by kernel_rfl) (by kernel_rfl) (by kernel_rfl) (by kernel_rfl) (by kernel_rfl) no_ms (by kernel_rfl)
def ty47 : TI := ⟨.struct [(0, 25), (1, 4), (2, 2), (3, 2), (4, 2), (5, 24)], 9, 88, .cells [.nils, .ff, .int .i64 0, .int .i64 0, .int .i64 0, .int .i64 0, .int .i64 0, .int .i64 0, .int .i64 0], []⟩
theorem ok47 : TOk Tryz.prog 47 ty47 := TOk.mk' (by kernel_rfl) (by kernel_rfl) (by kernel_rfl) (by kernel_rfl) (by kernel_rfl) no_ms (by kernel_rfl)
def ty48 : TI := ⟨.struct [(0, 25), (1, 4), (2, 2), (3, 2), (4, 2), (5, 24)], 9, 88, .cells [.nils, .ff, .int .i64 0, .int .i64 0, .int .i64 0, .int .i64 0, .int .i64 0, .int .i64 0, .int .i64 0], []⟩
theorem ok48 : TOk Tryz.prog 48 ty48 := TOk.mk' (by kernel_rfl) (by kernel_rfl) (by kernel_rfl) (by kernel_rfl) (by kernel_rfl) no_ms (by kernel_rfl)
def ty50 : TI := ⟨.slice 2, 1, 24, .cells [.nils], []⟩
theorem ok50 : TOk Tryz.prog 50 ty50 := TOk.mk' (by kernel_rfl) (by kernel_rfl) (by kernel_rfl) (by kernel_rfl) (by kernel_rfl) no_ms (by kernel_rfl)
def ty51 : TI := ⟨.slice 29, 1, 24, .cells [.nils], []⟩
theorem ok51 : TOk Tryz.prog 51 ty51 := TOk.mk' (by kernel_rfl) (by kernel_rfl) (by kernel_rfl) (by kernel_rfl) (by kernel_rfl) no_ms (by kernel_rfl)
def ty68 : TI := ⟨.slice 26, 1, 24, .cells [.nils], []⟩
theorem ok68 : TOk Tryz.prog 68 ty68 := TOk.mk' (by kernel_rfl) (by kernel_rfl) (by kernel_rfl) (by kernel_rfl) (by kernel_rfl) no_ms (by kernel_rfl)
def ty69 : TI := ⟨.struct [(0, 26), (1, 68)], 2, 48, .cells [.nils, .nils], []⟩
theorem ok69 : TOk Tryz.prog 69 ty69 := TOk.mk' (by kernel_rfl) (by kernel_rfl) (by kernel_rfl) (by kernel_rfl) (by kernel_rfl) no_ms (by kernel_rfl)
def ty70 : TI := ⟨.struct [(0, 26), (1, 68)], 2, 48, .cells [.nils, .nils], []⟩
theorem ok70 : TOk Tryz.prog 70 ty70 := TOk.mk' (by kernel_rfl) (by kernel_rfl) (by kernel_rfl) (by kernel_rfl) (by kernel_rfl) no_ms (by kernel_rfl)
def ty75 : TI := ⟨.struct [(0, 39), (3, 29)], 7, 88, .cells [.int .i64 0, .nils, .nils, .int .i64 0, .int .i64 0, .int .i64 0, .int .i64 0], []⟩
theorem ok75 : TOk Tryz.prog 75 ty75 := TOk.mk' (by kernel_rfl) (by kernel_rfl) (by kernel_rfl) (by kernel_rfl) (by kernel_rfl) no_ms (by kernel_rfl)
def ty76 : TI := ⟨.slice 75, 1, 24, .cells [.nils], []⟩
theorem ok76 : TOk Tryz.prog 76 ty76 := TOk.mk' (by kernel_rfl) (by kernel_rfl) (by kernel_rfl) (by kernel_rfl) (by kernel_rfl) no_ms (by kernel_rfl)
def ty79 : TI := ⟨.slice 39, 1, 24, .cells [.nils], []⟩
theorem ok79 : TOk Tryz.prog 79 ty79 := TOk.mk' (by kernel_rfl) (by kernel_rfl) (by kernel_rfl) (by kernel_rfl) (by kernel_rfl) no_ms (by kernel_rfl)
def ty92 : TI := ⟨.iface, 1, 16, .cells [.nili], []⟩
theorem ok92 : TOk Tryz.prog 92 ty92 := TOk.mk' (by kernel_rfl) (by kernel_rfl) (by kernel_rfl) (by kernel_rfl) (by kernel_rfl) no_ms (by kernel_rfl)
def ty93 : TI := ⟨.iface, 1, 16, .cells [.nili], []⟩
theorem ok93 : TOk Tryz.prog 93 ty93 := TOk.mk' (by kernel_rfl) (by kernel_rfl) (by kernel_rfl) (by kernel_rfl) (by kernel_rfl) no_ms (by kernel_rfl)
def ty95 : TI := ⟨.ptr 148, 1, 8, .cells [.nilp], []⟩
theorem ok95 : TOk Tryz.prog 95 ty95 := TOk.mk' (by kernel_rfl) (by kernel_rfl) (by kernel_rfl) (by kernel_rfl) (by kernel_rfl) no_ms (by kernel_rfl)
def ty98 : TI := ⟨.flt .f64, 1, 8, .cells [.flt .f64 0], []⟩
theorem ok98 : TOk Tryz.prog 98 ty98 := TOk.mk' (by kernel_rfl) (by kernel_rfl) (by kernel_rfl) (by kernel_rfl) (by kernel_rfl) no_ms (by kernel_rfl)
def ty99 : TI := ⟨.struct [(0, 98), (1, 98)], 2, 16, .cells [.flt .f64 0, .flt .f64 0], []⟩
theorem ok99 : TOk Tryz.prog 99 ty99 := TOk.mk' (by kernel_rfl) (by kernel_rfl) (by kernel_rfl) (by kernel_rfl) (by kernel_rfl) no_ms (by kernel_rfl)
def ty100 : TI := ⟨.struct [(0, 98), (1, 98)], 2, 16, .cells [.flt .f64 0, .flt .f64 0], [⟨ "ContainsLine", 152, none⟩, ⟨ "ContainsPoint", 153, none⟩, ⟨ "ContainsPoly", 154, none⟩, ⟨ "ContainsRect", 155, none⟩, ⟨ "Empty", 156, none⟩, ⟨ "IntersectsLine", 157, none⟩, ⟨ "IntersectsPoint", 158, none⟩, ⟨ "IntersectsPoly", 159, none⟩, ⟨ "IntersectsRect", 160, none⟩, ⟨ "Move", 81, none⟩, ⟨ "Rect", 161, none⟩, ⟨ "Valid", 162, none⟩]⟩
theorem ok100 : TOk Tryz.prog 100 ty100 := TOk.mk' (by kernel_rfl) (by kernel_rfl) (by kernel_rfl) (by kernel_rfl) (by kernel_rfl) (cons_ms (MOk.of_chk (by kernel_rfl)) (cons_ms (MOk.of_chk (by kernel_rfl)) (cons_ms (MOk.of_chk (by kernel_rfl)) (cons_ms (MOk.of_chk (by kernel_rfl)) (cons_ms (MOk.of_chk (by kernel_rfl)) (cons_ms (MOk.of_chk (by kernel_rfl)) (cons_ms (MOk.of_chk (by kernel_rfl)) (cons_ms (MOk.of_chk (by kernel_rfl)) (cons_ms (MOk.of_chk (by kernel_rfl)) (cons_ms (MOk.of_chk (by kernel_rfl)) (cons_ms (MOk.of_chk (by kernel_rfl)) (cons_ms (MOk.of_chk (by kernel_rfl)) no_ms)))))))))))) (by kernel_rfl)
def ty101 : TI := ⟨.struct [(0, 100), (2, 100)], 4, 32, .cells [.flt .f64 0, .flt .f64 0, .flt .f64 0, .flt .f64 0], []⟩
theorem ok101 : TOk Tryz.prog 101 ty101 := TOk.mk' (by kernel_rfl) (by kernel_rfl) (by kernel_rfl) (by kernel_rfl) (by kernel_rfl) no_ms (by kernel_rfl)
def ty102 : TI := ⟨.struct [(0, 100), (2, 100)], 4, 32, .cells [.flt .f64 0, .flt .f64 0, .flt .f64 0, .flt .f64 0], [⟨ "Area", 188, none⟩, ⟨ "Clockwise", 249, none⟩, ⟨ "ContainsLine", 189, none⟩, ⟨ "ContainsPoint", 169, none⟩, ⟨ "ContainsPoly", 190, none⟩, ⟨ "ContainsRect", 191, none⟩, ⟨ "Convex", 250, none⟩, ⟨ "Empty", 192, none⟩, ⟨ "Index", 251, none⟩, ⟨ "IntersectsLine", 193, none⟩, ⟨ "IntersectsPoint", 194, none⟩, ⟨ "IntersectsPoly", 195, none⟩, ⟨ "IntersectsRect", 175, none⟩, ⟨ "Move", 82, none⟩, ⟨ "NumPoints", 196, none⟩, ⟨ "NumSegments", 203, none⟩, ⟨ "PointAt", 197, none⟩, ⟨ "Rect", 198, none⟩, ⟨ "Search", 199, none⟩, ⟨ "SegmentAt", 204, none⟩, ⟨ "Valid", 200, none⟩]⟩
theorem ok102 : TOk Tryz.prog 102 ty102 := TOk.mk' (by kernel_rfl) (by kernel_rfl) (by kernel_rfl) (by kernel_rfl) (by kernel_rfl) (cons_ms (MOk.of_chk (by kernel_rfl)) (cons_ms (MOk.of_chk (by kernel_rfl)) (cons_ms (MOk.of_chk (by kernel_rfl)) (cons_ms (MOk.of_chk (by kernel_rfl)) (cons_ms (MOk.of_chk (by kernel_rfl)) (cons_ms (MOk.of_chk (by kernel_rfl)) (cons_ms (MOk.of_chk (by kernel_rfl)) (cons_ms (MOk.of_chk (by kernel_rfl)) (cons_ms (MOk.of_chk (by kernel_rfl)) (cons_ms (MOk.of_chk (by kernel_rfl)) (cons_ms (MOk.of_chk (by kernel_rfl)) (cons_ms (MOk.of_chk (by kernel_rfl)) (cons_ms (MOk.of_chk (by kernel_rfl)) (cons_ms (MOk.of_chk (by kernel_rfl)) (cons_ms (MOk.of_chk (by kernel_rfl)) (cons_ms (MOk.of_chk (by kernel_rfl)) (cons_ms (MOk.of_chk (by kernel_rfl)) (cons_ms (MOk.of_chk (by kernel_rfl)) (cons_ms (MOk.of_chk (by kernel_rfl)) (cons_ms (MOk.of_chk (by kernel_rfl)) (cons_ms (MOk.of_chk (by kernel_rfl)) no_ms))))))))))))))))))))) (by kernel_rfl)
def ty105 : TI := ⟨.iface, 1, 16, .cells [.nili], []⟩
theorem ok105 : TOk Tryz.prog 105 ty105 := TOk.mk' (by kernel_rfl) (by kernel_rfl) (by kernel_rfl) (by kernel_rfl) (by kernel_rfl) no_ms (by kernel_rfl)
def ty106 : TI := ⟨.iface, 1, 16, .cells [.nili], []⟩
theorem ok106 : TOk Tryz.prog 106 ty106 := TOk.mk' (by kernel_rfl) (by kernel_rfl) (by kernel_rfl) (by kernel_rfl) (by kernel_rfl) no_ms (by kernel_rfl)
def ty110 : TI := ⟨.struct [(0, 100), (2, 100)], 4, 32, .cells [.flt .f64 0, .flt .f64 0, .flt .f64 0, .flt .f64 0], []⟩
theorem ok110 : TOk Tryz.prog 110 ty110 := TOk.mk' (by kernel_rfl) (by kernel_rfl) (by kernel_rfl) (by kernel_rfl) (by kernel_rfl) no_ms (by kernel_rfl)
def ty111 : TI := ⟨.struct [(0, 100), (2, 100)], 4, 32, .cells [.flt .f64 0, .flt .f64 0, .flt .f64 0, .flt .f64 0], []⟩
theorem ok111 : TOk Tryz.prog 111 ty111 := TOk.mk' (by kernel_rfl) (by kernel_rfl) (by kernel_rfl) (by kernel_rfl) (by kernel_rfl) no_ms (by kernel_rfl)
def ty116 : TI := ⟨.ptr 152, 1, 8, .cells [.nilp], [⟨ "Clockwise", 222, some 0⟩, ⟨ "ContainsLine", 223, none⟩, ⟨ "ContainsPoint", 170, none⟩, ⟨ "ContainsPoly", 224, none⟩, ⟨ "ContainsRect", 225, none⟩, ⟨ "Convex", 226, some 0⟩, ⟨ "Empty", 163, some 0⟩, ⟨ "Index", 105, some 0⟩, ⟨ "IntersectsLine", 227, none⟩, ⟨ "IntersectsPoint", 167, none⟩, ⟨ "IntersectsPoly", 228, none⟩, ⟨ "IntersectsRect", 229, none⟩, ⟨ "Move", 84, none⟩, ⟨ "NumPoints", 205, some 0⟩, ⟨ "NumSegments", 111, some 0⟩, ⟨ "PointAt", 206, some 0⟩, ⟨ "Rect", 164, some 0⟩, ⟨ "Search", 172, some 0⟩, ⟨ "SegmentAt", 112, some 0⟩, ⟨ "Valid", 230, none⟩]⟩
theorem ok116 : TOk Tryz.prog 116 ty116 := TOk.mk' (by kernel_rfl) (by kernel_rfl) (by kernel_rfl) (by kernel_rfl) (by kernel_rfl) (cons_ms (MOk.of_chkO (by kernel_rfl)) (cons_ms (MOk.of_chk (by kernel_rfl)) (cons_ms (MOk.of_chk (by kernel_rfl)) (cons_ms (MOk.of_chk (by kernel_rfl)) (cons_ms (MOk.of_chk (by kernel_rfl)) (cons_ms (MOk.of_chkO (by kernel_rfl)) (cons_ms (MOk.of_chkO (by kernel_rfl)) (cons_ms (MOk.of_chkO (by kernel_rfl)) (cons_ms (MOk.of_chk (by kernel_rfl)) (cons_ms (MOk.of_chk (by kernel_rfl)) (cons_ms (MOk.of_chk (by kernel_rfl)) (cons_ms (MOk.of_chk (by kernel_rfl)) (cons_ms (MOk.of_chk (by kernel_rfl)) (cons_ms (MOk.of_chkO (by kernel_rfl)) (cons_ms (MOk.of_chkO (by kernel_rfl)) (cons_ms (MOk.of_chkO (by kernel_rfl)) (cons_ms (MOk.of_chkO (by kernel_rfl)) (cons_ms (MOk.of_chkO (by kernel_rfl)) (cons_ms (MOk.of_chkO (by kernel_rfl)) (cons_ms (MOk.of_chk (by kernel_rfl)) no_ms)))))))))))))))))))) (by kernel_rfl)
def ty118 : TI := ⟨.slice 100, 1, 24, .cells [.nils], []⟩
theorem ok118 : TOk Tryz.prog 118 ty118 := TOk.mk' (by kernel_rfl) (by kernel_rfl) (by kernel_rfl) (by kernel_rfl) (by kernel_rfl) no_ms (by kernel_rfl)
def ty121 : TI := ⟨.ptr 137, 1, 8, .cells [.nilp], [⟨ "Clockwise", 236, none⟩, ⟨ "ContainsLine", 237, none⟩, ⟨ "ContainsPoint", 171, none⟩, ⟨ "ContainsPoly", 238, none⟩, ⟨ "ContainsRect", 239, none⟩, ⟨ "Empty", 165, none⟩, ⟨ "IntersectsLine", 233, none⟩, ⟨ "IntersectsPoint", 168, none⟩, ⟨ "IntersectsPoly", 208, none⟩, ⟨ "IntersectsRect", 202, none⟩, ⟨ "Move", 85, none⟩, ⟨ "Rect", 166, none⟩, ⟨ "Valid", 240, none⟩]⟩
theorem ok121 : TOk Tryz.prog 121 ty121 := TOk.mk' (by kernel_rfl) (by kernel_rfl) (by kernel_rfl) (by kernel_rfl) (by kernel_rfl) (cons_ms (MOk.of_chk (by kernel_rfl)) (cons_ms (MOk.of_chk (by kernel_rfl)) (cons_ms (MOk.of_chk (by kernel_rfl)) (cons_ms (MOk.of_chk (by kernel_rfl)) (cons_ms (MOk.of_chk (by kernel_rfl)) (cons_ms (MOk.of_chk (by kernel_rfl)) (cons_ms (MOk.of_chk (by kernel_rfl)) (cons_ms (MOk.of_chk (by kernel_rfl)) (cons_ms (MOk.of_chk (by kernel_rfl)) (cons_ms (MOk.of_chk (by kernel_rfl)) (cons_ms (MOk.of_chk (by kernel_rfl)) (cons_ms (MOk.of_chk (by kernel_rfl)) (cons_ms (MOk.of_chk (by kernel_rfl)) no_ms))))))))))))) (by kernel_rfl)
def ty135 : TI := ⟨.slice 106, 1, 24, .cells [.nils], []⟩
theorem ok135 : TOk Tryz.prog 135 ty135 := TOk.mk' (by kernel_rfl) (by kernel_rfl) (by kernel_rfl) (by kernel_rfl) (by kernel_rfl) no_ms (by kernel_rfl)
def ty136 : TI := ⟨.struct [(0, 106), (1, 135)], 2, 40, .cells [.nili, .nils], []⟩
theorem ok136 : TOk Tryz.prog 136 ty136 := TOk.mk' (by kernel_rfl) (by kernel_rfl) (by kernel_rfl) (by kernel_rfl) (by kernel_rfl) no_ms (by kernel_rfl)
def ty137 : TI := ⟨.struct [(0, 106), (1, 135)], 2, 40, .cells [.nili, .nils], []⟩
theorem ok137 : TOk Tryz.prog 137 ty137 := TOk.mk' (by kernel_rfl) (by kernel_rfl) (by kernel_rfl) (by kernel_rfl) (by kernel_rfl) no_ms (by kernel_rfl)
def ty141 : TI := ⟨.struct [(0, 4), (1, 4)], 2, 2, .cells [.ff, .ff], []⟩
theorem ok141 : TOk Tryz.prog 141 ty141 := TOk.mk' (by kernel_rfl) (by kernel_rfl) (by kernel_rfl) (by kernel_rfl) (by kernel_rfl) no_ms (by kernel_rfl)
def ty142 : TI := ⟨.struct [(0, 4), (1, 4)], 2, 2, .cells [.ff, .ff], []⟩
theorem ok142 : TOk Tryz.prog 142 ty142 := TOk.mk' (by kernel_rfl) (by kernel_rfl) (by kernel_rfl) (by kernel_rfl) (by kernel_rfl) no_ms (by kernel_rfl)
def ty144 : TI := ⟨.slice 118, 1, 24, .cells [.nils], []⟩
theorem ok144 : TOk Tryz.prog 144 ty144 := TOk.mk' (by kernel_rfl) (by kernel_rfl) (by kernel_rfl) (by kernel_rfl) (by kernel_rfl) no_ms (by kernel_rfl)
def ty146 : TI := ⟨.int .u8, 1, 1, .cells [.int .u8 0], []⟩
theorem ok146 : TOk Tryz.prog 146 ty146 := TOk.mk' (by kernel_rfl) (by kernel_rfl) (by kernel_rfl) (by kernel_rfl) (by kernel_rfl) no_ms (by kernel_rfl)
def ty147 : TI := ⟨.struct [(0, 146), (1, 3)], 2, 16, .cells [.int .u8 0, .int .i64 0], []⟩
theorem ok147 : TOk Tryz.prog 147 ty147 := TOk.mk' (by kernel_rfl) (by kernel_rfl) (by kernel_rfl) (by kernel_rfl) (by kernel_rfl) no_ms (by kernel_rfl)
def ty148 : TI := ⟨.struct [(0, 146), (1, 3)], 2, 16, .cells [.int .u8 0, .int .i64 0], []⟩
theorem ok148 : TOk Tryz.prog 148 ty148 := TOk.mk' (by kernel_rfl) (by kernel_rfl) (by kernel_rfl) (by kernel_rfl) (by kernel_rfl) no_ms (by kernel_rfl)
def ty149 : TI := ⟨.struct [(0, 4), (1, 4), (2, 4), (3, 146), (4, 20), (5, 102), (9, 118)], 10, 80, .cells [.ff, .ff, .ff, .int .u8 0, .nili, .flt .f64 0, .flt .f64 0, .flt .f64 0, .flt .f64 0, .nils], []⟩
theorem ok149 : TOk Tryz.prog 149 ty149 := TOk.mk' (by kernel_rfl) (by kernel_rfl) (by kernel_rfl) (by kernel_rfl) (by kernel_rfl) no_ms (by kernel_rfl)
def ty150 : TI := ⟨.struct [(0, 4), (1, 4), (2, 4), (3, 146), (4, 20), (5, 102), (9, 118)], 10, 80, .cells [.ff, .ff, .ff, .int .u8 0, .nili, .flt .f64 0, .flt .f64 0, .flt .f64 0, .flt .f64 0, .nils], []⟩
theorem ok150 : TOk Tryz.prog 150 ty150 := TOk.mk' (by kernel_rfl) (by kernel_rfl) (by kernel_rfl) (by kernel_rfl) (by kernel_rfl) no_ms (by kernel_rfl)
def ty151 : TI := ⟨.struct [(0, 150)], 10, 80, .cells [.ff, .ff, .ff, .int .u8 0, .nili, .flt .f64 0, .flt .f64 0, .flt .f64 0, .flt .f64 0, .nils], []⟩
theorem ok151 : TOk Tryz.prog 151 ty151 := TOk.mk' (by kernel_rfl) (by kernel_rfl) (by kernel_rfl) (by kernel_rfl) (by kernel_rfl) no_ms (by kernel_rfl)
def ty152 : TI := ⟨.struct [(0, 150)], 10, 80, .cells [.ff, .ff, .ff, .int .u8 0, .nili, .flt .f64 0, .flt .f64 0, .flt .f64 0, .flt .f64 0, .nils], []⟩
theorem ok152 : TOk Tryz.prog 152 ty152 := TOk.mk' (by kernel_rfl) (by kernel_rfl) (by kernel_rfl) (by kernel_rfl) (by kernel_rfl) no_ms (by kernel_rfl)
def ty157 : TI := ⟨.ptr 150, 1, 8, .cells [.nilp], [⟨ "Clockwise", 222, none⟩, ⟨ "Convex", 226, none⟩, ⟨ "Empty", 163, none⟩, ⟨ "Index", 105, none⟩, ⟨ "Move", 95, none⟩, ⟨ "NumPoints", 205, none⟩, ⟨ "NumSegments", 111, none⟩, ⟨ "PointAt", 206, none⟩, ⟨ "Rect", 164, none⟩, ⟨ "Search", 172, none⟩, ⟨ "SegmentAt", 112, none⟩, ⟨ "Valid", 234, none⟩]⟩
theorem ok157 : TOk Tryz.prog 157 ty157 := TOk.mk' (by kernel_rfl) (by kernel_rfl) (by kernel_rfl) (by kernel_rfl) (by kernel_rfl) (cons_ms (MOk.of_chk (by kernel_rfl)) (cons_ms (MOk.of_chk (by kernel_rfl)) (cons_ms (MOk.of_chk (by kernel_rfl)) (cons_ms (MOk.of_chk (by kernel_rfl)) (cons_ms (MOk.of_chk (by kernel_rfl)) (cons_ms (MOk.of_chk (by kernel_rfl)) (cons_ms (MOk.of_chk (by kernel_rfl)) (cons_ms (MOk.of_chk (by kernel_rfl)) (cons_ms (MOk.of_chk (by kernel_rfl)) (cons_ms (MOk.of_chk (by kernel_rfl)) (cons_ms (MOk.of_chk (by kernel_rfl)) (cons_ms (MOk.of_chk (by kernel_rfl)) no_ms)))))))))))) (by kernel_rfl)
def ty172 : TI := ⟨.int .u64, 1, 8, .cells [.int .u64 0], []⟩
theorem ok172 : TOk Tryz.prog 172 ty172 := TOk.mk' (by kernel_rfl) (by kernel_rfl) (by kernel_rfl) (by kernel_rfl) (by kernel_rfl) no_ms (by kernel_rfl)
def ty174 : TI := ⟨.ptr 180, 1, 8, .cells [.nilp], []⟩
theorem ok174 : TOk Tryz.prog 174 ty174 := TOk.mk' (by kernel_rfl) (by kernel_rfl) (by kernel_rfl) (by kernel_rfl) (by kernel_rfl) no_ms (by kernel_rfl)
def ty175 : TI := ⟨.array 2 98, 2, 16, .cells [.flt .f64 0, .flt .f64 0], []⟩
theorem ok175 : TOk Tryz.prog 175 ty175 := TOk.mk' (by kernel_rfl) (by kernel_rfl) (by kernel_rfl) (by kernel_rfl) (by kernel_rfl) no_ms (by kernel_rfl)
def ty176 : TI := ⟨.struct [(0, 20), (1, 175), (3, 175)], 5, 48, .cells [.nili, .flt .f64 0, .flt .f64 0, .flt .f64 0, .flt .f64 0], []⟩
theorem ok176 : TOk Tryz.prog 176 ty176 := TOk.mk' (by kernel_rfl) (by kernel_rfl) (by kernel_rfl) (by kernel_rfl) (by kernel_rfl) no_ms (by kernel_rfl)
def ty177 : TI := ⟨.struct [(0, 20), (1, 175), (3, 175)], 5, 48, .cells [.nili, .flt .f64 0, .flt .f64 0, .flt .f64 0, .flt .f64 0], []⟩
theorem ok177 : TOk Tryz.prog 177 ty177 := TOk.mk' (by kernel_rfl) (by kernel_rfl) (by kernel_rfl) (by kernel_rfl) (by kernel_rfl) no_ms (by kernel_rfl)
def ty178 : TI := ⟨.slice 177, 1, 24, .cells [.nils], []⟩
theorem ok178 : TOk Tryz.prog 178 ty178 := TOk.mk' (by kernel_rfl) (by kernel_rfl) (by kernel_rfl) (by kernel_rfl) (by kernel_rfl) no_ms (by kernel_rfl)
def ty179 : TI := ⟨.struct [(0, 3), (1, 177), (6, 3), (7, 178)], 8, 88, .cells [.int .i64 0, .nili, .flt .f64 0, .flt .f64 0, .flt .f64 0, .flt .f64 0, .int .i64 0, .nils], []⟩
theorem ok179 : TOk Tryz.prog 179 ty179 := TOk.mk' (by kernel_rfl) (by kernel_rfl) (by kernel_rfl) (by kernel_rfl) (by kernel_rfl) no_ms (by kernel_rfl)
def ty180 : TI := ⟨.struct [(0, 3), (1, 177), (6, 3), (7, 178)], 8, 88, .cells [.int .i64 0, .nili, .flt .f64 0, .flt .f64 0, .flt .f64 0, .flt .f64 0, .int .i64 0, .nils], []⟩
theorem ok180 : TOk Tryz.prog 180 ty180 := TOk.mk' (by kernel_rfl) (by kernel_rfl) (by kernel_rfl) (by kernel_rfl) (by kernel_rfl) no_ms (by kernel_rfl)
def ty183 : TI := ⟨.slice 98, 1, 24, .cells [.nils], []⟩
theorem ok183 : TOk Tryz.prog 183 ty183 := TOk.mk' (by kernel_rfl) (by kernel_rfl) (by kernel_rfl) (by kernel_rfl) (by kernel_rfl) no_ms (by kernel_rfl)
def ty185 : TI := ⟨.slice 5, 1, 24, .cells [.nils], []⟩
theorem ok185 : TOk Tryz.prog 185 ty185 := TOk.mk' (by kernel_rfl) (by kernel_rfl) (by kernel_rfl) (by kernel_rfl) (by kernel_rfl) no_ms (by kernel_rfl)
def ty187 : TI := ⟨.ptr 191, 1, 8, .cells [.nilp], []⟩
theorem ok187 : TOk Tryz.prog 187 ty187 := TOk.mk' (by kernel_rfl) (by kernel_rfl) (by kernel_rfl) (by kernel_rfl) (by kernel_rfl) no_ms (by kernel_rfl)
def ty188 : TI := ⟨.slice 200, 1, 24, .cells [.nils], []⟩
theorem ok188 : TOk Tryz.prog 188 ty188 := TOk.mk' (by kernel_rfl) (by kernel_rfl) (by kernel_rfl) (by kernel_rfl) (by kernel_rfl) no_ms (by kernel_rfl)
def ty189 : TI := ⟨.array 4 187, 4, 32, .cells [.nilp, .nilp, .nilp, .nilp], []⟩
theorem ok189 : TOk Tryz.prog 189 ty189 := TOk.mk' (by kernel_rfl) (by kernel_rfl) (by kernel_rfl) (by kernel_rfl) (by kernel_rfl) no_ms (by kernel_rfl)
def ty190 : TI := ⟨.struct [(0, 4), (1, 188), (2, 189)], 6, 64, .cells [.ff, .nils, .nilp, .nilp, .nilp, .nilp], []⟩
theorem ok190 : TOk Tryz.prog 190 ty190 := TOk.mk' (by kernel_rfl) (by kernel_rfl) (by kernel_rfl) (by kernel_rfl) (by kernel_rfl) no_ms (by kernel_rfl)
def ty191 : TI := ⟨.struct [(0, 4), (1, 188), (2, 189)], 6, 64, .cells [.ff, .nils, .nilp, .nilp, .nilp, .nilp], []⟩
theorem ok191 : TOk Tryz.prog 191 ty191 := TOk.mk' (by kernel_rfl) (by kernel_rfl) (by kernel_rfl) (by kernel_rfl) (by kernel_rfl) no_ms (by kernel_rfl)
def ty195 : TI := ⟨.ptr 177, 1, 8, .cells [.nilp], []⟩
theorem ok195 : TOk Tryz.prog 195 ty195 := TOk.mk' (by kernel_rfl) (by kernel_rfl) (by kernel_rfl) (by kernel_rfl) (by kernel_rfl) no_ms (by kernel_rfl)
def ty197 : TI := ⟨.struct [], 0, 0, .cells [], []⟩
theorem ok197 : TOk Tryz.prog 197 ty197 := TOk.mk' (by kernel_rfl) (by kernel_rfl) (by kernel_rfl) (by kernel_rfl) (by kernel_rfl) no_ms (by kernel_rfl)
def ty198 : TI := ⟨.struct [], 0, 0, .cells [], []⟩
theorem ok198 : TOk Tryz.prog 198 ty198 := TOk.mk' (by kernel_rfl) (by kernel_rfl) (by kernel_rfl) (by kernel_rfl) (by kernel_rfl) no_ms (by kernel_rfl)
def ty200 : TI := ⟨.int .u32, 1, 4, .cells [.int .u32 0], []⟩
theorem ok200 : TOk Tryz.prog 200 ty200 := TOk.mk' (by kernel_rfl) (by kernel_rfl) (by kernel_rfl) (by kernel_rfl) (by kernel_rfl) no_ms (by kernel_rfl)
def ty206 : TI := ⟨.array 4 3, 4, 32, .cells [.int .i64 0, .int .i64 0, .int .i64 0, .int .i64 0], []⟩
theorem ok206 : TOk Tryz.prog 206 ty206 := TOk.mk' (by kernel_rfl) (by kernel_rfl) (by kernel_rfl) (by kernel_rfl) (by kernel_rfl) no_ms (by kernel_rfl)
def ty207 : TI := ⟨.ptr 210, 1, 8, .cells [.nilp], []⟩
theorem ok207 : TOk Tryz.prog 207 ty207 := TOk.mk' (by kernel_rfl) (by kernel_rfl) (by kernel_rfl) (by kernel_rfl) (by kernel_rfl) no_ms (by kernel_rfl)
def ty208 : TI := ⟨.array 17 177, 85, 816, .cells [.nili, .flt .f64 0, .flt .f64 0, .flt .f64 0, .flt .f64 0, .nili, .flt .f64 0, .flt .f64 0, .flt .f64 0, .flt .f64 0, .nili, .flt .f64 0, .flt .f64 0, .flt .f64 0, .flt .f64 0, .nili, .flt .f64 0, .flt .f64 0, .flt .f64 0, .flt .f64 0, .nili, .flt .f64 0, .flt .f64 0, .flt .f64 0, .flt .f64 0, .nili, .flt .f64 0, .flt .f64 0, .flt .f64 0, .flt .f64 0, .nili, .flt .f64 0, .flt .f64 0, .flt .f64 0, .flt .f64 0, .nili, .flt .f64 0, .flt .f64 0, .flt .f64 0, .flt .f64 0, .nili, .flt .f64 0, .flt .f64 0, .flt .f64 0, .flt .f64 0, .nili, .flt .f64 0, .flt .f64 0, .flt .f64 0, .flt .f64 0, .nili, .flt .f64 0, .flt .f64 0, .flt .f64 0, .flt .f64 0, .nili, .flt .f64 0, .flt .f64 0, .flt .f64 0, .flt .f64 0, .nili, .flt .f64 0, .flt .f64 0, .flt .f64 0, .flt .f64 0, .nili, .flt .f64 0, .flt .f64 0, .flt .f64 0, .flt .f64 0, .nili, .flt .f64 0, .flt .f64 0, .flt .f64 0, .flt .f64 0, .nili, .flt .f64 0, .flt .f64 0, .flt .f64 0, .flt .f64 0, .nili, .flt .f64 0, .flt .f64 0, .flt .f64 0, .flt .f64 0], []⟩
theorem ok208 : TOk Tryz.prog 208 ty208 := TOk.mk' (by kernel_rfl) (by kernel_rfl) (by kernel_rfl) (by kernel_rfl) (by kernel_rfl) no_ms (by kernel_rfl)
def ty209 : TI := ⟨.struct [(0, 3), (1, 208)], 86, 824, .cells [.int .i64 0, .nili, .flt .f64 0, .flt .f64 0, .flt .f64 0, .flt .f64 0, .nili, .flt .f64 0, .flt .f64 0, .flt .f64 0, .flt .f64 0, .nili, .flt .f64 0, .flt .f64 0, .flt .f64 0, .flt .f64 0, .nili, .flt .f64 0, .flt .f64 0, .flt .f64 0, .flt .f64 0, .nili, .flt .f64 0, .flt .f64 0, .flt .f64 0, .flt .f64 0, .nili, .flt .f64 0, .flt .f64 0, .flt .f64 0, .flt .f64 0, .nili, .flt .f64 0, .flt .f64 0, .flt .f64 0, .flt .f64 0, .nili, .flt .f64 0, .flt .f64 0, .flt .f64 0, .flt .f64 0, .nili, .flt .f64 0, .flt .f64 0, .flt .f64 0, .flt .f64 0, .nili, .flt .f64 0, .flt .f64 0, .flt .f64 0, .flt .f64 0, .nili, .flt .f64 0, .flt .f64 0, .flt .f64 0, .flt .f64 0, .nili, .flt .f64 0, .flt .f64 0, .flt .f64 0, .flt .f64 0, .nili, .flt .f64 0, .flt .f64 0, .flt .f64 0, .flt .f64 0, .nili, .flt .f64 0, .flt .f64 0, .flt .f64 0, .flt .f64 0, .nili, .flt .f64 0, .flt .f64 0, .flt .f64 0, .flt .f64 0, .nili, .flt .f64 0, .flt .f64 0, .flt .f64 0, .flt .f64 0, .nili, .flt .f64 0, .flt .f64 0, .flt .f64 0, .flt .f64 0], []⟩
theorem ok209 : TOk Tryz.prog 209 ty209 := TOk.mk' (by kernel_rfl) (by kernel_rfl) (by kernel_rfl) (by kernel_rfl) (by kernel_rfl) no_ms (by kernel_rfl)
def ty210 : TI := ⟨.struct [(0, 3), (1, 208)], 86, 824, .cells [.int .i64 0, .nili, .flt .f64 0, .flt .f64 0, .flt .f64 0, .flt .f64 0, .nili, .flt .f64 0, .flt .f64 0, .flt .f64 0, .flt .f64 0, .nili, .flt .f64 0, .flt .f64 0, .flt .f64 0, .flt .f64 0, .nili, .flt .f64 0, .flt .f64 0, .flt .f64 0, .flt .f64 0, .nili, .flt .f64 0, .flt .f64 0, .flt .f64 0, .flt .f64 0, .nili, .flt .f64 0, .flt .f64 0, .flt .f64 0, .flt .f64 0, .nili, .flt .f64 0, .flt .f64 0, .flt .f64 0, .flt .f64 0, .nili, .flt .f64 0, .flt .f64 0, .flt .f64 0, .flt .f64 0, .nili, .flt .f64 0, .flt .f64 0, .flt .f64 0, .flt .f64 0, .nili, .flt .f64 0, .flt .f64 0, .flt .f64 0, .flt .f64 0, .nili, .flt .f64 0, .flt .f64 0, .flt .f64 0, .flt .f64 0, .nili, .flt .f64 0, .flt .f64 0, .flt .f64 0, .flt .f64 0, .nili, .flt .f64 0, .flt .f64 0, .flt .f64 0, .flt .f64 0, .nili, .flt .f64 0, .flt .f64 0, .flt .f64 0, .flt .f64 0, .nili, .flt .f64 0, .flt .f64 0, .flt .f64 0, .flt .f64 0, .nili, .flt .f64 0, .flt .f64 0, .flt .f64 0, .flt .f64 0, .nili, .flt .f64 0, .flt .f64 0, .flt .f64 0, .flt .f64 0], []⟩
theorem ok210 : TOk Tryz.prog 210 ty210 := TOk.mk' (by kernel_rfl) (by kernel_rfl) (by kernel_rfl) (by kernel_rfl) (by kernel_rfl) no_ms (by kernel_rfl)
def ty212 : TI := ⟨.int .u64, 1, 8, .cells [.int .u64 0], []⟩
theorem ok212 : TOk Tryz.prog 212 ty212 := TOk.mk' (by kernel_rfl) (by kernel_rfl) (by kernel_rfl) (by kernel_rfl) (by kernel_rfl) no_ms (by kernel_rfl)
def ty214 : TI := ⟨.slice 3, 1, 24, .cells [.nils], []⟩
theorem ok214 : TOk Tryz.prog 214 ty214 := TOk.mk' (by kernel_rfl) (by kernel_rfl) (by kernel_rfl) (by kernel_rfl) (by kernel_rfl) no_ms (by kernel_rfl)
def ty216 : TI := ⟨.int .u16, 1, 2, .cells [.int .u16 0], []⟩
theorem ok216 : TOk Tryz.prog 216 ty216 := TOk.mk' (by kernel_rfl) (by kernel_rfl) (by kernel_rfl) (by kernel_rfl) (by kernel_rfl) no_ms (by kernel_rfl)
def ty221 : TI := ⟨.array 8 5, 8, 8, .cells [.int .u8 0, .int .u8 0, .int .u8 0, .int .u8 0, .int .u8 0, .int .u8 0, .int .u8 0, .int .u8 0], []⟩
theorem ok221 : TOk Tryz.prog 221 ty221 := TOk.mk' (by kernel_rfl) (by kernel_rfl) (by kernel_rfl) (by kernel_rfl) (by kernel_rfl) no_ms (by kernel_rfl)
def ty224 : TI := ⟨.struct [(0, 17), (1, 17), (2, 17), (3, 9)], 4, 40, .cells [.nilp, .nilp, .nilp, .str ⟨#[]⟩], []⟩
theorem ok224 : TOk Tryz.prog 224 ty224 := TOk.mk' (by kernel_rfl) (by kernel_rfl) (by kernel_rfl) (by kernel_rfl) (by kernel_rfl) no_ms (by kernel_rfl)
def ty225 : TI := ⟨.struct [(0, 17), (1, 17), (2, 17), (3, 9)], 4, 40, .cells [.nilp, .nilp, .nilp, .str ⟨#[]⟩], []⟩
theorem ok225 : TOk Tryz.prog 225 ty225 := TOk.mk' (by kernel_rfl) (by kernel_rfl) (by kernel_rfl) (by kernel_rfl) (by kernel_rfl) no_ms (by kernel_rfl)
def ty226 : TI := ⟨.array 0 16, 0, 0, .cells [], []⟩
theorem ok226 : TOk Tryz.prog 226 ty226 := TOk.mk' (by kernel_rfl) (by kernel_rfl) (by kernel_rfl) (by kernel_rfl) (by kernel_rfl) no_ms (by kernel_rfl)
def ty227 : TI := ⟨.struct [(0, 226)], 0, 0, .cells [], []⟩
theorem ok227 : TOk Tryz.prog 227 ty227 := TOk.mk' (by kernel_rfl) (by kernel_rfl) (by kernel_rfl) (by kernel_rfl) (by kernel_rfl) no_ms (by kernel_rfl)
def ty228 : TI := ⟨.struct [(0, 226)], 0, 0, .cells [], []⟩
theorem ok228 : TOk Tryz.prog 228 ty228 := TOk.mk' (by kernel_rfl) (by kernel_rfl) (by kernel_rfl) (by kernel_rfl) (by kernel_rfl) no_ms (by kernel_rfl)
def ty229 : TI := ⟨.int .u8, 1, 1, .cells [.int .u8 0], []⟩
theorem ok229 : TOk Tryz.prog 229 ty229 := TOk.mk' (by kernel_rfl) (by kernel_rfl) (by kernel_rfl) (by kernel_rfl) (by kernel_rfl) no_ms (by kernel_rfl)
def ty230 : TI := ⟨.int .u8, 1, 1, .cells [.int .u8 0], []⟩
theorem ok230 : TOk Tryz.prog 230 ty230 := TOk.mk' (by kernel_rfl) (by kernel_rfl) (by kernel_rfl) (by kernel_rfl) (by kernel_rfl) no_ms (by kernel_rfl)
def ty232 : TI := ⟨.ptr 5, 1, 8, .cells [.nilp], []⟩
theorem ok232 : TOk Tryz.prog 232 ty232 := TOk.mk' (by kernel_rfl) (by kernel_rfl) (by kernel_rfl) (by kernel_rfl) (by kernel_rfl) no_ms (by kernel_rfl)
def ty233 : TI := ⟨.int .i32, 1, 4, .cells [.int .i32 0], []⟩
theorem ok233 : TOk Tryz.prog 233 ty233 := TOk.mk' (by kernel_rfl) (by kernel_rfl) (by kernel_rfl) (by kernel_rfl) (by kernel_rfl) no_ms (by kernel_rfl)
def ty234 : TI := ⟨.int .i32, 1, 4, .cells [.int .i32 0], []⟩
theorem ok234 : TOk Tryz.prog 234 ty234 := TOk.mk' (by kernel_rfl) (by kernel_rfl) (by kernel_rfl) (by kernel_rfl) (by kernel_rfl) no_ms (by kernel_rfl)
def ty235 : TI := ⟨.struct [(0, 12), (1, 12), (2, 200), (3, 229), (4, 5), (5, 5), (6, 230), (7, 231), (8, 232), (9, 233), (10, 234)], 11, 48, .cells [.int .u64 0, .int .u64 0, .int .u32 0, .int .u8 0, .int .u8 0, .int .u8 0, .int .u8 0, .nilf, .nilp, .int .i32 0, .int .i32 0], []⟩
theorem ok235 : TOk Tryz.prog 235 ty235 := TOk.mk' (by kernel_rfl) (by kernel_rfl) (by kernel_rfl) (by kernel_rfl) (by kernel_rfl) no_ms (by kernel_rfl)
def ty236 : TI := ⟨.struct [(0, 12), (1, 12), (2, 200), (3, 229), (4, 5), (5, 5), (6, 230), (7, 231), (8, 232), (9, 233), (10, 234)], 11, 48, .cells [.int .u64 0, .int .u64 0, .int .u32 0, .int .u8 0, .int .u8 0, .int .u8 0, .int .u8 0, .nilf, .nilp, .int .i32 0, .int .i32 0], []⟩
theorem ok236 : TOk Tryz.prog 236 ty236 := TOk.mk' (by kernel_rfl) (by kernel_rfl) (by kernel_rfl) (by kernel_rfl) (by kernel_rfl) no_ms (by kernel_rfl)
def ty237 : TI := ⟨.struct [(0, 4), (1, 3)], 2, 16, .cells [.ff, .int .i64 0], []⟩
theorem ok237 : TOk Tryz.prog 237 ty237 := TOk.mk' (by kernel_rfl) (by kernel_rfl) (by kernel_rfl) (by kernel_rfl) (by kernel_rfl) no_ms (by kernel_rfl)
def ty238 : TI := ⟨.struct [(0, 4), (1, 3)], 2, 16, .cells [.ff, .int .i64 0], []⟩
theorem ok238 : TOk Tryz.prog 238 ty238 := TOk.mk' (by kernel_rfl) (by kernel_rfl) (by kernel_rfl) (by kernel_rfl) (by kernel_rfl) no_ms (by kernel_rfl)
def ty249 : TI := ⟨.ptr 3, 1, 8, .cells [.nilp], []⟩
theorem ok249 : TOk Tryz.prog 249 ty249 := TOk.mk' (by kernel_rfl) (by kernel_rfl) (by kernel_rfl) (by kernel_rfl) (by kernel_rfl) no_ms (by kernel_rfl)
def ty250 : TI := ⟨.ptr 4, 1, 8, .cells [.nilp], []⟩
theorem ok250 : TOk Tryz.prog 250 ty250 := TOk.mk' (by kernel_rfl) (by kernel_rfl) (by kernel_rfl) (by kernel_rfl) (by kernel_rfl) no_ms (by kernel_rfl)
def ty255 : TI := ⟨.slice 111, 1, 24, .cells [.nils], []⟩
theorem ok255 : TOk Tryz.prog 255 ty255 := TOk.mk' (by kernel_rfl) (by kernel_rfl) (by kernel_rfl) (by kernel_rfl) (by kernel_rfl) no_ms (by kernel_rfl)
def ty258 : TI := ⟨.array 5 100, 10, 80, .cells [.flt .f64 0, .flt .f64 0, .flt .f64 0, .flt .f64 0, .flt .f64 0, .flt .f64 0, .flt .f64 0, .flt .f64 0, .flt .f64 0, .flt .f64 0], []⟩
theorem ok258 : TOk Tryz.prog 258 ty258 := TOk.mk' (by kernel_rfl) (by kernel_rfl) (by kernel_rfl) (by kernel_rfl) (by kernel_rfl) no_ms (by kernel_rfl)
def ty259 : TI := ⟨.array 2 100, 4, 32, .cells [.flt .f64 0, .flt .f64 0, .flt .f64 0, .flt .f64 0], []⟩
theorem ok259 : TOk Tryz.prog 259 ty259 := TOk.mk' (by kernel_rfl) (by kernel_rfl) (by kernel_rfl) (by kernel_rfl) (by kernel_rfl) no_ms (by kernel_rfl)
def tys : Tys := [(2, ty2), (3, ty3), (4, ty4), (5, ty5), (6, ty6), (7, ty7), (8, ty8), (9, ty9), (10, ty10), (11, ty11), (12, ty12), (13, ty13), (14, ty14), (15, ty15), (16, ty16), (17, ty17), (18, ty18), (19, ty19), (20, ty20), (21, ty21), (22, ty22), (23, ty23), (24, ty24), (25, ty25), (26, ty26), (28, ty28), (29, ty29), (37, ty37), (38, ty38), (39, ty39), (47, ty47), (48, ty48), (50, ty50), (51, ty51), (68, ty68), (69, ty69), (70, ty70), (75, ty75), (76, ty76), (79, ty79), (92, ty92), (93, ty93), (95, ty95), (98, ty98), (99, ty99), (100, ty100), (101, ty101), (102, ty102), (105, ty105), (106, ty106), (110, ty110), (111, ty111), (116, ty116), (118, ty118), (121, ty121), (135, ty135), (136, ty136), (137, ty137), (141, ty141), (142, ty142), (144, ty144), (146, ty146), (147, ty147), (148, ty148), (149, ty149), (150, ty150), (151, ty151), (152, ty152), (157, ty157), (172, ty172), (174, ty174), (175, ty175), (176, ty176), (177, ty177), (178, ty178), (179, ty179), (180, ty180), (183, ty183), (185, ty185), (187, ty187), (188, ty188), (189, ty189), (190, ty190), (191, ty191), (195, ty195), (197, ty197), (198, ty198), (200, ty200), (206, ty206), (207, ty207), (208, ty208), (209, ty209), (210, ty210), (212, ty212), (214, ty214), (216, ty216), (221, ty221), (224, ty224), (225, ty225), (226, ty226), (227, ty227), (228, ty228), (229, ty229), (230, ty230), (232, ty232), (233, ty233), (234, ty234), (235, ty235), (236, ty236), (237, ty237), (238, ty238), (249, ty249), (250, ty250), (255, ty255), (258, ty258), (259, ty259)]
theorem tysOk : TysOk Tryz.prog tys := by
 unfold tys
 refine TysOk.cons ok2 ?_
 refine TysOk.cons ok3 ?_
 refine TysOk.cons ok4 ?_
 refine TysOk.cons ok5 ?_
 refine TysOk.cons ok6 ?_
 refine TysOk.cons ok7 ?_
 refine TysOk.cons ok8 ?_
 refine TysOk.cons ok9 ?_
 refine TysOk.cons ok10 ?_
 refine TysOk.cons ok11 ?_
 refine TysOk.cons ok12 ?_
 refine TysOk.cons ok13 ?_
 refine TysOk.cons ok14 ?_
 refine TysOk.cons ok15 ?_
 refine TysOk.cons ok16 ?_
 refine TysOk.cons ok17 ?_
 refine TysOk.cons ok18 ?_
 refine TysOk.cons ok19 ?_
 refine TysOk.cons ok20 ?_
 refine TysOk.cons ok21 ?_
 refine TysOk.cons ok22 ?_
 refine TysOk.cons ok23 ?_
 refine TysOk.cons ok24 ?_
 refine TysOk.cons ok25 ?_
 refine TysOk.cons ok26 ?_
 refine TysOk.cons ok28 ?_
 refine TysOk.cons ok29 ?_
 refine TysOk.cons ok37 ?_
 refine TysOk.cons ok38 ?_
 refine TysOk.cons ok39 ?_
 refine TysOk.cons ok47 ?_
 refine TysOk.cons ok48 ?_
 refine TysOk.cons ok50 ?_
 refine TysOk.cons ok51 ?_
 refine TysOk.cons ok68 ?_
 refine TysOk.cons ok69 ?_
 refine TysOk.cons ok70 ?_
 refine TysOk.cons ok75 ?_
 refine TysOk.cons ok76 ?_
 refine TysOk.cons ok79 ?_
 refine TysOk.cons ok92 ?_
 refine TysOk.cons ok93 ?_
 refine TysOk.cons ok95 ?_
 refine TysOk.cons ok98 ?_
 refine TysOk.cons ok99 ?_
 refine TysOk.cons ok100 ?_
 refine TysOk.cons ok101 ?_
 refine TysOk.cons ok102 ?_
 refine TysOk.cons ok105 ?_
 refine TysOk.cons ok106 ?_
 refine TysOk.cons ok110 ?_
 refine TysOk.cons ok111 ?_
 refine TysOk.cons ok116 ?_
 refine TysOk.cons ok118 ?_
 refine TysOk.cons ok121 ?_
 refine TysOk.cons ok135 ?_
 refine TysOk.cons ok136 ?_
 refine TysOk.cons ok137 ?_
 refine TysOk.cons ok141 ?_
 refine TysOk.cons ok142 ?_
 refine TysOk.cons ok144 ?_
 refine TysOk.cons ok146 ?_
 refine TysOk.cons ok147 ?_
 refine TysOk.cons ok148 ?_
 refine TysOk.cons ok149 ?_
 refine TysOk.cons ok150 ?_
 refine TysOk.cons ok151 ?_
 refine TysOk.cons ok152 ?_
 refine TysOk.cons ok157 ?_
 refine TysOk.cons ok172 ?_
 refine TysOk.cons ok174 ?_
 refine TysOk.cons ok175 ?_
 refine TysOk.cons ok176 ?_
 refine TysOk.cons ok177 ?_
 refine TysOk.cons ok178 ?_
 refine TysOk.cons ok179 ?_
 refine TysOk.cons ok180 ?_
 refine TysOk.cons ok183 ?_
 refine TysOk.cons ok185 ?_
 refine TysOk.cons ok187 ?_
 refine TysOk.cons ok188 ?_
 refine TysOk.cons ok189 ?_
 refine TysOk.cons ok190 ?_
 refine TysOk.cons ok191 ?_
 refine TysOk.cons ok195 ?_
 refine TysOk.cons ok197 ?_
 refine TysOk.cons ok198 ?_
 refine TysOk.cons ok200 ?_
 refine TysOk.cons ok206 ?_
 refine TysOk.cons ok207 ?_
 refine TysOk.cons ok208 ?_
 refine TysOk.cons ok209 ?_
 refine TysOk.cons ok210 ?_
 refine TysOk.cons ok212 ?_
 refine TysOk.cons ok214 ?_
 refine TysOk.cons ok216 ?_
 refine TysOk.cons ok221 ?_
 refine TysOk.cons ok224 ?_
 refine TysOk.cons ok225 ?_
 refine TysOk.cons ok226 ?_
 refine TysOk.cons ok227 ?_
 refine TysOk.cons ok228 ?_
 refine TysOk.cons ok229 ?_
 refine TysOk.cons ok230 ?_
 refine TysOk.cons ok232 ?_
 refine TysOk.cons ok233 ?_
 refine TysOk.cons ok234 ?_
 refine TysOk.cons ok235 ?_
 refine TysOk.cons ok236 ?_
 refine TysOk.cons ok237 ?_
 refine TysOk.cons ok238 ?_
 refine TysOk.cons ok249 ?_
 refine TysOk.cons ok250 ?_
 refine TysOk.cons ok255 ?_
 refine TysOk.cons ok258 ?_
 refine TysOk.cons ok259 ?_
 exact TysOk.nil
end Go.Proofs.Tryz.Sx

namespace Go.Sx
open Go.RowKit
def Wp (P : Program) (N0 : Nat) (c : Code) (S : St) (K : Xt → St → Prop) : Prop :=
 ∀ (W0 : World) (Fr : Nat → Prop) (ρ0 ρ : Rho) (a : Act) (w : World) (Q : Exit → Act → World → Prop), Sat W0 Fr S ρ a w → N0 ≤ S.N → (∀ n, n < N0 → ρ n = ρ0 n) → AfterX W0 Fr N0 ρ0 K Q → c.wp P Q a w
section
variable {P : Program} {G : Ctx} {N0 : Nat} {S : St} {K : Xt → St → Prop}
theorem Wp.run (hG : CtxOk P G) {c : Code} (h : runC G N0 c S K) : Wp P N0 c S K :=
 fun _ _ _ _ _ _ _ hS hN hρ hK => runC_sound hG c h hS hN hρ hK
theorem Wp.mono {c : Code} {K' : Xt → St → Prop} (h : Wp P N0 c S K) (hk : ∀ e S', K e S' → K' e S') : Wp P N0 c S K' :=
 fun W0 Fr ρ0 ρ a w Q hS hN hρ hK => h W0 Fr ρ0 ρ a w Q hS hN hρ fun e S' ρ' a' w' h' => hK e S' ρ' a' w' (hk e S' h')
theorem Wp.seq {x y : Code} {K1 : Xt → St → Prop} (h : Wp P N0 x S K1) (hn : ∀ S', K1 .normal S' → Wp P N0 y S' K) (hx : ∀ id S', K1 (.exit id) S' → K (.exit id) S') (hr : ∀ S', K1 .ret S' → K .ret S') : Wp P N0 (.seq x y) S K := by
 intro W0 Fr ρ0 ρ a w Q hS hN hρ hK
 refine wp_seq (h W0 Fr ρ0 ρ a w _ hS hN hρ fun e S' ρ' a' w' h' hS' hN' hρ' => ?_)
 cases e with
 | normal => exact hn S' h' W0 Fr ρ0 ρ' a' w' Q hS' hN' hρ' hK
 | exit id => exact hK (.exit id) S' ρ' a' w' (hx id S' h') hS' hN' hρ'
 | ret => exact hK .ret S' ρ' a' w' (hr S' h') hS' hN' hρ'
theorem Wp.block {id : Nat} {x : Code} (h : Wp P N0 x S (fun e S' => match e with
   | .exit j => match Nat.beq j id with
     | true => K .normal S'
     | false => K (.exit j) S'
   | e => K e S')) : Wp P N0 (.block id x) S K := by
 intro W0 Fr ρ0 ρ a w Q hS hN hρ hK
 refine wp_block (h W0 Fr ρ0 ρ a w _ hS hN hρ fun e S' ρ' a' w' h' hS' hN' hρ' => ?_)
 cases e with
 | normal => exact hK .normal S' ρ' a' w' h' hS' hN' hρ'
 | ret => exact hK .ret S' ρ' a' w' h' hS' hN' hρ'
 | exit j =>
   simp only at h'
   simp only [Exit.inBlock]
   split at h'
   · rename_i hj
     rw [if_pos (Nat.eq_of_beq_eq_true hj)]
     exact hK .normal S' ρ' a' w' h' hS' hN' hρ'
   · rename_i hj
     rw [if_neg (fun e => by subst e; simp at hj)]
     exact hK (.exit j) S' ρ' a' w' h' hS' hN' hρ'
theorem Wp.loop {x : Code} {ι : Type} (I : ι → St) (μ : ι → Nat) (i0 : ι) (h0 : Refines N0 S (I i0))
   (hr : ∀ i, Wp P N0 x (I i) (fun e S' => match e with
     | .normal => ∃ i', μ i' < μ i ∧ Refines N0 S' (I i')
     | e => K e S')) : Wp P N0 (.loop x) S K := by
 intro W0 Fr ρ0 ρ a w Q hS hN hρ hK
 have start : ∀ {S1 : St} {i : ι}, Refines N0 S1 (I i) → ∀ {ρ1 a1 w1}, Sat W0 Fr S1 ρ1 a1 w1 → (∀ n, n < N0 → ρ1 n = ρ0 n) →
     ∃ ρ', Sat W0 Fr (I i) ρ' a1 w1 ∧ N0 ≤ (I i).N ∧ ∀ n, n < N0 → ρ' n = ρ0 n := by
   intro S1 i hR ρ1 a1 w1 hS1 hρ1
   obtain ⟨ρ', h1, h2⟩ := hR.2 W0 Fr ρ1 a1 w1 hS1
   exact ⟨ρ', h1, hR.1, fun n hn => (h2 n hn).trans (hρ1 n hn)⟩
 refine wp_loop_ghost (fun i a w => ∃ ρ', Sat W0 Fr (I i) ρ' a w ∧ N0 ≤ (I i).N ∧ ∀ n, n < N0 → ρ' n = ρ0 n) μ ?_ (start h0 hS hρ)
 rintro i a1 w1 ⟨ρ1, hS1, hN1, hρ1⟩
 refine hr i W0 Fr ρ0 ρ1 a1 w1 _ hS1 hN1 hρ1 fun e S' ρ' a' w' h' hS' hN' hρ' => ?_
 cases e with
 | normal =>
   obtain ⟨i', hlt, hR⟩ := h'
   exact ⟨i', start hR hS' hρ', hlt⟩
 | exit id => exact hK (.exit id) S' ρ' a' w' h' hS' hN' hρ'
 | ret => exact hK .ret S' ρ' a' w' h' hS' hN' hρ'
def keyIn (t : Nat) : Slots → Bool
 | [] => false
 | (m, _) :: r => Nat.beq m t || keyIn t r
def keysApart : Slots → Slots → Bool
 | [], _ => true
 | (t, _) :: r, s => !keyIn t s && keysApart r s
def nmIn (t : Nat) : Heap → Bool
 | [] => false
 | (m, _) :: r => Nat.beq m t || nmIn t r
def nmsApart : Heap → Heap → Bool
 | [], _ => true
 | (t, _) :: r, s => !nmIn t s && nmsApart r s
structure Keep (S S' : St) : Prop where
 nt : S'.nt = S.nt
 sl : S'.sl.drop (S'.sl.length - S.sl.length) = S.sl
 ks : keysApart (S'.sl.take (S'.sl.length - S.sl.length)) S.sl = true
 hp : S'.H.drop (S'.H.length - S.H.length) = S.H
 kh : nmsApart (S'.H.take (S'.H.length - S.H.length)) S.H = true
theorem slot_none {t : Nat} : ∀ {s : Slots}, keyIn t s = false → slot s t = none
 | [], _ => rfl
 | (m, v) :: r, h => by
   simp only [keyIn, Bool.or_eq_false_iff] at h
   rw [slot_cons, if_neg (fun e => by subst e; simp at h), slot_none h.2]
theorem keys_skip {s : Slots} : ∀ {p : Slots}, keysApart p s = true → ∀ t v, slot s t = some v → slot (p ++ s) t = some v
 | [], _, _, _, h => h
 | (m, u) :: r, h, t, v, hv => by
   simp only [keysApart, Bool.and_eq_true, Bool.not_eq_true'] at h
   have hm : m ≠ t := fun e => by subst e; rw [slot_none h.1] at hv; cases hv
   rw [List.cons_append, slot_cons, if_neg hm]
   exact keys_skip h.2 t v hv
theorem look_none {t : Nat} : ∀ {s : Heap}, nmIn t s = false → look s t = none
 | [], _ => rfl
 | (m, v) :: r, h => by
   simp only [nmIn, Bool.or_eq_false_iff] at h
   rw [look_cons, if_neg (fun e => by subst e; simp at h), look_none h.2]
theorem nms_skip {s : Heap} : ∀ {p : Heap}, nmsApart p s = true → ∀ t v, look s t = some v → look (p ++ s) t = some v
 | [], _, _, _, h => h
 | (m, u) :: r, h, t, v, hv => by
   simp only [nmsApart, Bool.and_eq_true, Bool.not_eq_true'] at h
   have hm : m ≠ t := fun e => by subst e; rw [look_none h.1] at hv; cases hv
   rw [List.cons_append, look_cons, if_neg hm]
   exact nms_skip h.2 t v hv
theorem Keep.slot {S' : St} (h : Keep S S') {t : Nat} {v : SV} (hv : slot S.sl t = some v) : Sx.slot S'.sl t = some v := by
 have := keys_skip h.ks t v hv
 rw [← List.take_append_drop (S'.sl.length - S.sl.length) S'.sl, h.sl]
 exact this
theorem Keep.look {S' : St} (h : Keep S S') {n : Nm} {o : Ob} (hv : Sx.look S.H n = some o) : Sx.look S'.H n = some o := by
 have := nms_skip h.kh n o hv
 rw [← List.take_append_drop (S'.H.length - S.H.length) S'.H, h.hp]
 exact this
theorem Wp.keep {x y : Code} (Φ : Prop) (h : Wp P S.N x S (fun e S' => match e with
     | .normal => Φ ∧ Keep S S'
     | e => K e S'))
   (hy : Φ → Wp P N0 y S K) : Wp P N0 (.seq x y) S K := by
 intro W0 Fr ρ0 ρ a w Q hS hN hρ hK
 refine wp_seq (h W0 Fr ρ ρ a w _ hS (Nat.le_refl _) (fun _ _ => rfl) fun e S' ρ' a' w' h' hS' hN' hρ' => ?_)
 have hρ0 : ∀ n, n < N0 → ρ' n = ρ0 n := fun n hn => (hρ' n (Nat.lt_of_lt_of_le hn hN)).trans (hρ n hn)
 cases e with
 | normal =>
   obtain ⟨hΦ, hk⟩ := h'
   refine hy hΦ W0 Fr ρ0 ρ' a' w' Q ⟨?_, ?_⟩ hN hρ0 hK
   · exact {
       os := hS'.h.os, tape := hS'.h.tape, output := hS'.h.output, size := hS'.h.size, frlt := hS'.h.frlt, frame := hS'.h.frame
       used := hS.h.used
       bd := hS.h.bd
       obj := fun n o hn => hS'.h.obj n o (hk.look hn)
       inj := fun n m o o' p q hn hm => hS'.h.inj n m o o' p q (hk.look hn) (hk.look hm)
       free := fun n o p hn => hS'.h.free n o p (hk.look hn) }
   · exact {
       nd := hS'.s.nd
       size := by rw [hS'.s.size, hk.nt]
       bd := hS.s.bd
       val := fun t v hv => hS'.s.val t v (hk.slot hv) }
 | exit id => exact hK (.exit id) S' ρ' a' w' h' hS' (Nat.le_trans hN hN') hρ0
 | ret => exact hK .ret S' ρ' a' w' h' hS' (Nat.le_trans hN hN') hρ0
end
theorem pure_of_wp {P : Program} {G : Ctx} (hG : CtxOk P G) {f : Nat} {fn : Func} {c : Code} (hf : P.funcs[f]? = some fn) (hb : fn.body = some c) (hnm : (fn.name == "runtime.NumGoroutine") = false) {F : PF}
   (h : ∀ args v p, F args = some (v, p) → okP p → v.closed = true ∧ closedL args = true ∧ Nat.ble args.length fn.ntmps = true ∧
     Wp P 0 c (init fn.ntmps args [] 0) (endK G.E.T fn.results.toList fun _ v' => eqv v' v)) : PureOk P f F := by
 intro args v p hF hp
 obtain ⟨h1, h2, h3, h4⟩ := h args v p hF hp
 refine ⟨h1, fun ρ w => .inl ⟨⟨fn, hf, hnm, by rw [hb]; rfl⟩, ?_⟩⟩
 refine calls_of_wp hf hb ?_
 have hH : HSat w (· < w.heap.size) (· < 0) [] ρ w :=
   { os := rfl, tape := rfl, output := rfl, size := Nat.le_refl _, frlt := fun _ h => h, frame := fun _ _ => rfl
     used := fun n o hn => by simp [look] at hn
     bd := fun n o hn => by simp [look] at hn
     obj := fun n o hn => by simp [look] at hn
     inj := fun n m o o' p q hn => by simp [look] at hn
     free := fun n o p hn => by simp [look] at hn }
 refine h4 w (· < w.heap.size) ρ ρ _ w _ (sat_init hH (bdL_closed _ _ h2) (Nat.le_of_ble_eq_true h3)) (Nat.zero_le _) (fun _ _ => rfl) ?_
 intro e S' ρ' a' w' hK hS hN hρ
 have fin : retK G.E.T fn.results.toList (fun _ v' => eqv v' v) S' → a'.defers = [] ∧ ∃ u, (results fn a'.tmps).run P w' = .ok u w' ∧ (Ending.returned u = .returned (v.den ρ) ∧ Below w.heap.size w w') := by
   intro hr
   unfold retK at hr
   split at hr
   · rename_i vs q hvs
     obtain ⟨hq, he⟩ := okK_iff hr
     obtain ⟨h5, h6⟩ := resS_sound hG.E.T hS hvs hq
     refine ⟨hS.s.nd, _, h5, ?_, ⟨hS.h.os, hS.h.tape, hS.h.output, hS.h.size, fun k hk => hS.h.frame k hk⟩⟩
     rw [eqv_den ρ' _ _ he, SV.den_closed ρ ρ' h1]
   · exact hr.elim
 cases e with
 | normal => exact fin hK
 | ret => exact fin hK
 | exit id => exact hK.elim
theorem pure_of_extern {P : Program} {f : Nat} {fn : Func} {e : Array Value → Sem Value} (hf : P.funcs[f]? = some fn) (hb : fn.body.isNone = true) (hnm : (fn.name == "runtime.NumGoroutine") = false) (h1 : Extern.findNext fn = none) (h2 : Extern.find fn = some e) {F : PF}
   (h : ∀ args v p, F args = some (v, p) → okP p → v.closed = true ∧ ∀ (ρ : Rho) (w : World), (e (denL ρ args).toArray).run P w = .ok (v.den ρ) w) : PureOk P f F := by
 intro args v p hF hp
 obtain ⟨h3, h4⟩ := h args v p hF hp
 refine ⟨h3, fun ρ w => .inr ⟨v.den ρ, w, ?_, rfl, Below.refl _ _⟩⟩
 simp only [callFunc, Sem.run_bind, run_program, Result.andThen_ok, hf, hnm, hb, Bool.false_eq_true, if_false, if_true, run_mark, h1, h2, h4, Sem.run_pure]
end Go.Sx
