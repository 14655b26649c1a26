/- States; contracts; regions in the order of the text; code. -/
import Derived.Test.YtcjhgngdhdcpeaaSx12
import Derived.Scope
namespace Go.Sx
open Go.RowKit

structure St where
  nt : Nat
  sl : Slots
  H : Heap
  N : Nat

structure Sat (W0 : World) (Fr : Nat → Prop) (S : St) (ρ : Rho) (a : Act) (w : World) : Prop where
  h : HSat W0 Fr (· < S.N) S.H ρ w
  s : SSat (· < S.N) S.nt S.sl ρ a

/-! ### Contracts -/
abbrev Con := List SV → (Nm → Option Ob) → Nm → Option Eff

def FOk (P : Program) (f : Nat) : Prop := ∃ fn, P.funcs[f]? = some fn ∧ (fn.name == "runtime.NumGoroutine") = false ∧ fn.body.isNone = false

/-- A call of f: of a function with a text, or of one that the model carries out itself. -/
def CallsV (P : Program) (f : Nat) (args : Array Value) (w : World) (R : Ending → World → Prop) : Prop :=
  (FOk P f ∧ Calls P f args w R) ∨ ∃ v w', (callFunc f args).run P w = .ok (.value v) w' ∧ R (.returned v) w'

theorem CallsV.mono {P : Program} {f : Nat} {args : Array Value} {w : World} {R R' : Ending → World → Prop} (h : CallsV P f args w R) (hr : ∀ e w', R e w' → R' e w') : CallsV P f args w R' := by
  rcases h with ⟨h1, h2⟩ | ⟨v, w', h1, h2⟩
  · exact .inl ⟨h1, h2.mono hr⟩
  · exact .inr ⟨v, w', h1, hr _ _ h2⟩

structure ConOk (P : Program) (f : Nat) (c : Con) : Prop where
  calls : ∀ {W0 : World} {Fr : Nat → Prop} {U : Nm → Prop} {H : Heap} {ρ : Rho} {w : World} {nm : Nm} {args : List SV} {e : Eff},
    HSat W0 Fr U H ρ w → bdL U args → (∀ j, j < 4 → ¬ U (nm + j)) → c args (look H) nm = some e → okP e.obl →
    CallsV P f (denL ρ args).toArray w fun en w' => ∃ ρ', (∀ n, U n → ρ' n = ρ n) ∧ HSat W0 Fr (UU U nm) (e.wr ++ (e.news ++ H)) ρ' w' ∧
      ∃ v, e.val = some v ∧ v.bd (UU U nm) ∧ en = .returned (v.den ρ')
  loc : ∀ {args : List SV} {rd rd' : Nm → Option Ob} {nm : Nm} {e : Eff}, c args rd nm = some e → (∀ n ∈ e.rds, rd' n = rd n) → c args rd' nm = some e

abbrev Gam := List (Nat × Con)
def con : Gam → Nat → Option Con
  | [], _ => none
  | (m, v) :: r, n => match Nat.beq m n with
    | true => some v
    | false => con r n

def GamOk (P : Program) (Γ : Gam) : Prop := ∀ f c, con Γ f = some c → ConOk P f c
theorem GamOk.nil {P : Program} : GamOk P [] := fun _ _ h => by simp [con] at h
theorem GamOk.cons {P : Program} {f : Nat} {c : Con} {Γ : Gam} (h1 : ConOk P f c) (h2 : GamOk P Γ) : GamOk P ((f, c) :: Γ) := fun u ui h => by
  simp only [con] at h
  cases hb : Nat.beq f u
  · rw [hb] at h; exact h2 u ui h
  · rw [hb] at h
    have : f = u := Nat.eq_of_beq_eq_true hb
    subst this
    simp only [Option.some.injEq] at h
    subst h
    exact h1

/-- A function of values without memory: what it gives, and under what it gives it. -/
abbrev PF := List SV → Option (SV × Option Prop)
def pureCon (F : PF) : Con := fun args _ _ => match F args with
  | some (v, p) => some (Eff.pureO v p)
  | none => none

def PureOk (P : Program) (f : Nat) (F : PF) : Prop :=
  ∀ args v p, F args = some (v, p) → okP p → v.closed = true ∧ ∀ (ρ : Rho) (w : World), CallsV P f (denL ρ args).toArray w fun e w' => e = .returned (v.den ρ) ∧ Below w.heap.size w w'

theorem ConOk.pure {P : Program} {f : Nat} {F : PF} (h : PureOk P f F) : ConOk P f (pureCon F) where
  calls := by
    intro W0 Fr U H ρ w nm args e hH hb hn hc ho
    unfold pureCon at hc
    split at hc
    · rename_i v p hv
      simp only [Option.some.injEq] at hc
      subst hc
      obtain ⟨h1, h2⟩ := h args v p hv ho
      refine (h2 ρ w).mono ?_
      rintro en w' ⟨rfl, hb'⟩
      exact ⟨ρ, fun _ _ => rfl, (hH.below hb').mono UU_of, v, rfl, SV.bd_closed _ v h1, rfl⟩
    · cases hc
  loc := fun h _ => h

structure Ctx where
  E : Env
  Γ : Gam

structure CtxOk (P : Program) (G : Ctx) : Prop where
  E : EnvOk P G.E
  Γ : GamOk P G.Γ
  mix : P.follows .mixedOrders = true

def evCallF (Γ : Gam) (ev : Operand → Option SV) (rd : Nm → Option Ob) (nm : Nm) (c : Call) : Option Eff :=
  match c.callee with
  | .value x => match ev x with
    | some (.fn (.func f) first captured) => match evL ev c.args.toList with
      | some vs => match con Γ f with
        | some k => k (first ++ (vs ++ captured)) rd nm
        | none => none
      | none => none
    | _ => none
  | _ => none

def evAny (G : Ctx) (ev : Operand → Option SV) (rd : Nm → Option Ob) (nm : Nm) (o : Op) : Option Eff :=
  match o with
  | .call c => match c.callee with
    | .builtin _ => evCallB G.E ev rd nm c
    | _ => evCallF G.Γ ev rd nm c
  | o => evOp G.E ev rd nm o

theorem denL_append (ρ : Rho) : ∀ a b : List SV, denL ρ (a ++ b) = denL ρ a ++ denL ρ b
  | [], _ => rfl
  | x :: r, b => by simp [denL, denL_append ρ r b]
theorem bdL_append {U : Nm → Prop} {a b : List SV} (h : bdL U a) (h' : bdL U b) : bdL U (a ++ b) := by
  rw [bdL_iff] at *
  intro v hv
  rcases List.mem_append.1 hv with hv | hv
  · exact h v hv
  · exact h' v hv

section
variable {P : Program} {W0 : World} {Fr : Nat → Prop} {U : Nm → Prop} {H : Heap} {ρ : Rho} {w : World} {nm : Nm}

/-- One operation. -/
theorem evAny_sound {G : Ctx} (hG : CtxOk P G) (hH : HSat W0 Fr U H ρ w) (hn : ∀ j, j < 4 → ¬ U (nm + j)) {ev : Operand → Option SV} {a : Act} (hev : ∀ x v, ev x = some v → a.eval x = v.den ρ ∧ v.bd U)
    (hc : ∀ c v, ev (.const c) = some v → c = v.den ρ) {o : Oper} {e : Eff} (h : evAny G ev (look H) nm o.op = some e) (ho : okP e.obl)
    {next : Act → World → Prop} {Q : Exit → Act → World → Prop}
    (hk : ∀ ρ' w', (∀ n, U n → ρ' n = ρ n) → HSat W0 Fr (UU U nm) (e.wr ++ (e.news ++ H)) ρ' w' →
      (match e.val with
       | some v => v.bd (UU U nm) → next (a.put o.dst (v.den ρ')) w'
       | none => next (a.put o.dst undef) w')) : o.wp P a w next Q := by
  have plain : Done W0 Fr U H ρ nm e ((execOp a.eval o).run P w) → o.wp P a w next Q := by
    rintro ⟨ρ', w', h1, h2, h3⟩
    have h4 := hk ρ' w' h1 h2
    unfold Oper.wp
    split at h3
    · rename_i v hv
      obtain ⟨h5, h6⟩ := h3
      rw [h6]
      simp only [hv] at h4
      exact h4 h5
    · rename_i hv
      rw [h3]
      simp only [hv] at h4
      exact h4
  by_cases hcall : ∃ c, o.op = .call c
  · obtain ⟨c, hoc⟩ := hcall
    rw [hoc] at h
    simp only [evAny] at h
    split at h
    · rename_i b hb
      refine plain (evOp_sound hG.E hH (by simpa using hn 0 (by decide)) hev hc (e := e) ?_ ho)
      rw [hoc]
      exact h
    · unfold evCallF at h
      split at h
      · rename_i x hx
        split at h
        · rename_i f first captured hf
          split at h
          · rename_i vs hvs
            split at h
            · rename_i k hk'
              obtain ⟨h1, h2⟩ := hev _ _ hf
              obtain ⟨h3, h4⟩ := evL_sound hev hvs
              simp only [SV.bd] at h2
              have hok := hG.Γ f k hk'
              have hcalls := hok.calls hH (bdL_append h2.1 (bdL_append h4 h2.2)) hn h ho
              have hrun : (execOp a.eval o).run P w = (callFunc f (denL ρ (first ++ (vs ++ captured))).toArray).run P w := by
                have e1 : c.args.map a.eval = (denL ρ vs).toArray := by rw [← h3]; apply Array.ext'; simp
                simp only [execOp, hoc, resolve, hx, h1, e1, SV.den, Deferred.ofValue, Sem.run_bind, Sem.run_pure, Result.andThen_ok, invoke]
                congr 2
                rw [denL_append, denL_append]
                simp
              unfold Oper.wp
              rw [hrun]
              rcases hcalls with ⟨⟨fn, hfn, hname, hbody⟩, hcalls⟩ | ⟨v, w', hv, ρ', h5, h6, v', h7, h8, h10⟩
              · have hcf : (callFunc f (denL ρ (first ++ (vs ++ captured))).toArray).run P w = .ok (.enter f (denL ρ (first ++ (vs ++ captured))).toArray) w := by
                  simp only [callFunc, Sem.run_bind, run_program, Result.andThen_ok, hfn, hname, hbody, Bool.false_eq_true, if_false, Sem.run_pure]
                rw [hcf]
                show Calls P f _ w _
                refine hcalls.mono ?_
                rintro en w' ⟨ρ', h5, h6, v, h7, h8, rfl⟩
                have h9 := hk ρ' w' h5 h6
                simp only [h7] at h9
                exact h9 h8
              · rw [hv]
                have h9 := hk ρ' w' h5 h6
                simp only [h7] at h9
                injection h10 with h10
                rw [h10]
                exact h9 h8
            · cases h
          · cases h
        · cases h
      · cases h
  · have hop : evOp G.E ev (look H) nm o.op = some e := by
      unfold evAny at h
      split at h
      · rename_i c hoc
        exact absurd ⟨c, hoc⟩ hcall
      · exact h
    exact plain (evOp_sound hG.E hH (by simpa using hn 0 (by decide)) hev hc hop ho)

end
end Go.Sx
