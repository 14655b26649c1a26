/- From a contract to a row: what a law's row asks, where the law makes only memory of its own and answers true. -/
import Derived.Test.YtcjhgngdhdcpeaaSx24
import Derived.ProofKit
import Derived.Lib.SmallJoins
namespace Go.Sx
open Go.RowKit Go.ChangeShapes Go.WideShapes Go.ChangeAt

theorem calls_of_pure {P : Program} {f : Nat} {F : PF} {fn : Func} (h : PureOk P f F) (hf : P.funcs[f]? = some fn) (hb : fn.body.isNone = false) (hnm : (fn.name == "runtime.NumGoroutine") = false)
    {args : List SV} {v : SV} {p : Option Prop} (hF : F args = some (v, p)) (hp : okP p) (ρ : Rho) (w : World) :
    Calls P f (denL ρ args).toArray w fun e w' => e = .returned (v.den ρ) ∧ Below w.heap.size w w' := by
  rcases (h args v p hF hp).2 ρ w with ⟨_, h1⟩ | ⟨v', w', h1, _⟩
  · exact h1
  · simp only [callFunc, Sem.run_bind, run_program, Result.andThen_ok, hf, hnm, hb, Bool.false_eq_true, if_false, Sem.run_pure] at h1
    cases h1

section
variable {H : Type} {enc : TypeId × Value → H} {P : Program}

theorem trodAll_below (hl : laidOutB P = true) {W W' : World} (hb : Below W.heap.size W W') : ∀ {ts : List TypeId} {vs : List Value} {ds : List (DataW H)} {ps : List MemPlace},
    (ts.all fun t => P.readableRec t && decide (t < P.types.size)) = true → DataW.TrodAll enc P W 0 (fun _ => true) true ts vs ds ps → (∀ x ∈ ps, x.block < W.heap.size) →
    DataW.TrodAll enc P W' 0 (fun b => decide (b < W.heap.size)) true ts vs ds ps
  | [], vs, ds, ps, _, h, _ => by
    cases vs <;> cases ds <;> simp_all [DataW.TrodAll]
  | t :: ts, vs, ds, ps, ht, h, hlt => by
    obtain ⟨v, vs', d, ds', p, q, rfl, rfl, rfl, h1, h2⟩ := trodAll_cons h
    simp only [List.all_cons, Bool.and_eq_true, decide_eq_true_eq] at ht
    exact ⟨p, q, Below.trod hl ht.1.1 ht.1.2 h1 hb (fun x hx => hlt x (by simp [hx])), trodAll_below hl hb ht.2 h2 (fun x hx => hlt x (by simp [hx])), rfl⟩

/-- The row's last step: the law has returned true and left all old memory alone. -/
theorem post_true (hl : laidOutB P = true) {f : Func} {s : ChangeSpec} {apart : Bool} {W W' : World} {args : Array Value} {ds : List (DataW H)} {before : List MemPlace}
    (hW : DataW.Whole enc P f.params.toList s.vars apart W args.toList ds [] before) (hb : Below W.heap.size W W') {bt : TypeId} (hbt : P.underlying bt = some .bool) (hr : f.resultTypes = #[bt])
    (hvars : s.vars = []) (hres : (s.fn H (ds ++ [])).results = [.lit (.bool true)]) (hargs : (s.fn H (ds ++ [])).args = ds) (hvs : (s.fn H (ds ++ [])).vars = [])
    (hp : (f.params.toList.all fun t => P.readableRec t && decide (t < P.types.size)) = true) :
    s.post enc P f apart true false false W args (.bool true) W' := by
  have hW' := hW
  obtain ⟨p, q, hA, hV, hpq, _, _⟩ := hW
  rw [hvars] at hV
  obtain ⟨_, rfl⟩ := trodVars_none hV
  rw [List.append_nil] at hpq
  subst hpq
  refine ⟨ds, [], before, [], before, [], hW', ?_, ?_, ?_, hb.frame _, fun h => by cases h⟩
  · rw [hres, hr]
    exact trodAll_mk1 (shut_bool hbt true)
  · rw [hargs]
    exact trodAll_below hl hb hp hA (fun x hx => by simpa using hW'.lt x hx)
  · rw [hvars, hvs]; rfl

end
end Go.Sx
