/- FnGeoRaycast's law. -/
import Derived.Test.YtcjhgngdhdcpeaaGeo2
namespace Go.Proofs.Try.Sx
open Go Go.Sx Go.Proofs Go.Fl Go.Geo
set_option maxRecDepth 100000

def GA : Ctx := ⟨⟨tys, []⟩, [(9, pureCon implF)]⟩
theorem gA : CtxOk Try.prog GA := ⟨⟨tysOk, FlatsOk.nil⟩, GamOk.cons (.pure impl) GamOk.nil, by kernel_rfl⟩

def awakeF : PF := fun
  | [] => some (.tt, none)
  | _ => none
theorem awake : PureOk Try.prog 8 awakeF := by
  refine pure_of_run gA Try.func8 rfl (by kernel_rfl) ?_
  intro args v p h hp
  unfold awakeF at h
  split at h
  · injection h with h; injection h with h1 h2; subst h1; subst h2
    refine ⟨rfl, rfl, rfl, ?_⟩
    refine And.intro (by unfold small6 small; omega) ?_
    exact decide_eq_true (by decide)
  · cases h

def GL : Ctx := ⟨⟨tys, []⟩, [(6, conR geoOfC), (7, conR isGeoC), (8, pureCon awakeF), (9, pureCon implF), (10, pureCon onF), (11, pureCon leftF)]⟩
theorem gL : CtxOk Try.prog GL := ⟨⟨tysOk, FlatsOk.nil⟩, GamOk.cons geoOf (GamOk.cons isGeo (GamOk.cons (.pure awake) (GamOk.cons (.pure impl) (GamOk.cons (.pure on) (GamOk.cons (.pure left) GamOk.nil))))), by kernel_rfl⟩

def lawF : PF := fun
  | [.agg [.int .i64 _, .int .i64 _], .agg [.int .i64 _, .int .i64 _], .agg [.int .i64 _, .int .i64 _]] => some (.tt, none)
  | _ => none

noncomputable def d0 : Code := codeOf Try.f3
noncomputable def d1 : Code := p2 (p2 d0)     -- the test
noncomputable def d2 : Code := p2 d1          -- behind the test
noncomputable def d3 : Code := p2 (p2 d2)     -- the answer

def KT : Xt → St → Prop := endK GL.E.T Try.f3.results.toList fun _ v => eqv v .tt

section
variable (ax ay bx by' px py : Int)

def SA : St := ⟨61, [(3, .ptr 0 0), (4, .ptr 1 0), (5, .ptr 2 0), (7, .slcc 3 3)],
  [(0, ⟨true, 23, .cells [.int .i64 ax, .int .i64 ay], 0⟩), (1, ⟨true, 23, .cells [.int .i64 bx, .int .i64 by'], 0⟩), (2, ⟨true, 23, .cells [.int .i64 px, .int .i64 py], 0⟩),
    (3, ⟨true, 31, .cells [.int .i64 ax, .int .i64 ay, .int .i64 bx, .int .i64 by', .int .i64 px, .int .i64 py], 2⟩)], 4⟩

def SB (i o : Bool) : St := ⟨61, [(7, .slcc 0 3), (8, .bool i), (9, .bool o), (10, .bool o)],
  [(0, ⟨true, 31, .cells [.int .i64 ax, .int .i64 ay, .int .i64 bx, .int .i64 by', .int .i64 px, .int .i64 py], 2⟩)], 1⟩

set_option maxHeartbeats 2000000 in
theorem lawA (h : Wp Try.prog 0 d1 (SA ax ay bx by' px py) KT) : Wp Try.prog 0 d0 (init 61 [.agg [.int .i64 ax, .int .i64 ay], .agg [.int .i64 bx, .int .i64 by'], .agg [.int .i64 px, .int .i64 py]] [] 0) KT := by
  refine Wp.seq (K1 := fun e S' => match e with
    | .normal => Wp Try.prog 0 (p2 d0) S' KT
    | _ => False) (Wp.run gL ?_) (fun S' h' => h') (fun _ _ h => h.elim) (fun _ h => h.elim)
  show Wp Try.prog 0 (p2 d0) _ KT
  refine Wp.seq (K1 := fun e S' => match e with
    | .normal => Refines 0 S' (SA ax ay bx by' px py)
    | _ => False) (Wp.run gL ?_) (fun S' h' => Wp.refines h' h) (fun _ _ h => h.elim) (fun _ h => h.elim)
  refine And.intro ⟨rfl, by decide⟩ ?_
  show Refines 0 _ (SA ax ay bx by' px py)
  refine Refines.by_names [(0, some 0), (1, some 4), (2, some 8), (3, some 32)] ⟨rfl, rfl, rfl, rfl, ?_, ?_⟩
  · exact ⟨⟨rfl, trivial, rfl⟩, ⟨rfl, trivial, rfl⟩, ⟨rfl, trivial, rfl⟩, ⟨rfl, trivial, rfl⟩, trivial⟩
  · exact ⟨⟨rfl, rfl, rfl, rfl, rfl, rfl, trivial⟩, ⟨rfl, rfl, rfl, rfl, rfl, rfl, trivial⟩, ⟨rfl, rfl, rfl, rfl, rfl, rfl, trivial⟩, ⟨rfl, rfl, rfl, rfl, rfl, rfl, rfl, rfl, rfl, rfl, trivial⟩, trivial⟩

set_option maxHeartbeats 2000000 in
theorem lawB (h : small6 ax ay bx by' px py → Wp Try.prog 0 d2 (SA ax ay bx by' px py) KT) : Wp Try.prog 0 d1 (SA ax ay bx by' px py) KT := by
  refine Wp.keep _ (Wp.run gL ?_) h
  clear h
  refine And.intro ⟨rfl, by decide⟩ ?_
  refine And.intro ?_ ?_
  · intro _
    exact trivial
  · intro h
    have hall : geoAll 6 (fun i => [ax, ay, bx, by', px, py].getD i 0) = true := by simpa using h
    have hall := of_decide_eq_true hall
    exact And.intro ⟨⟨hall 0 (by decide), hall 1 (by decide)⟩, ⟨hall 2 (by decide), hall 3 (by decide)⟩, ⟨hall 4 (by decide), hall 5 (by decide)⟩⟩ ⟨rfl, rfl, rfl, rfl, rfl⟩

set_option maxHeartbeats 4000000 in
theorem lawC (hg : small6 ax ay bx by' px py) (h : Wp Try.prog 0 d3 (SB ax ay bx by' px py (decide (¬ On ax ay bx by' px py ∧ Lft ax ay bx by' px py)) (decide (On ax ay bx by' px py))) KT) :
    Wp Try.prog 0 d2 (SA ax ay bx by' px py) KT := by
  refine Wp.seq (K1 := fun e S' => match e with
    | .normal => Wp Try.prog 0 (p2 d2) S' KT
    | _ => False) (Wp.run gL ?_) (fun S' h' => h') (fun _ _ h => h.elim) (fun _ h => h.elim)
  refine And.intro hg ?_
  show Wp Try.prog 0 (p2 d2) _ KT
  refine Wp.seq (K1 := fun e S' => match e with
    | .normal => Refines 0 S' (SB ax ay bx by' px py (decide (¬ On ax ay bx by' px py ∧ Lft ax ay bx by' px py)) (decide (On ax ay bx by' px py)))
    | _ => False) (Wp.run gL ?_) (fun S' h' => Wp.refines h' h) (fun _ _ h => h.elim) (fun _ h => h.elim)
  refine And.intro ⟨⟨by decide, by decide⟩, trivial⟩ ?_
  refine And.intro ⟨⟨by decide, by decide⟩, trivial⟩ ?_
  refine And.intro ⟨⟨by decide, by decide⟩, trivial⟩ ?_
  refine And.intro hg ?_
  refine And.intro (by kernel_rfl) ?_
  show Refines 0 _ (SB ax ay bx by' px py _ _)
  refine Refines.by_names [(0, some 3)] ⟨rfl, rfl, rfl, rfl, ?_, ?_⟩
  · exact ⟨⟨rfl, trivial, rfl⟩, ⟨rfl, rfl⟩, ⟨rfl, rfl⟩, ⟨rfl, rfl⟩, trivial⟩
  · exact ⟨⟨rfl, rfl, rfl, rfl, rfl, rfl, rfl, rfl, rfl, rfl, trivial⟩, trivial⟩

def ix (k : Int) : Prop := (0 ≤ k ∧ k < ((3 : Nat) : Int)) ∧ True
def QD (i o d : Bool) (p : Prop) : Prop :=
  ((o == o) = true → (((!o) = true → ((i == d) = true → (o == o) = true ∧ (!o) = true ∧ ix 0 ∧ ix 1 ∧ ix 2 ∧ p ∧ (i == d) = true ∧ (true = true ∧ True)) ∧ ((i == d) = false → (o == o) = true ∧ (!o) = true ∧ ix 0 ∧ ix 1 ∧ ix 2 ∧ p ∧ (i == d) = false ∧ (true = true ∧ False))) ∧
    ((!o) = false → ((i == false) = true → (o == o) = true ∧ (!o) = false ∧ (i == false) = true ∧ (true = true ∧ True)) ∧ ((i == false) = false → (o == o) = true ∧ (!o) = false ∧ (i == false) = false ∧ (true = true ∧ False))))) ∧
  ((o == o) = false → (o == o) = false ∧ (true = true ∧ False))

theorem lawDeq (i o : Bool) : runC GL 0 d3 (SB ax ay bx by' px py i o) KT = QD i o (decide (Lft ax ay bx by' px py)) (small6 ax ay bx by' px py) := by kernel_rfl

theorem lawD (i o : Bool) (hg : small6 ax ay bx by' px py) (hi : i = (!o && decide (Lft ax ay bx by' px py))) : Wp Try.prog 0 d3 (SB ax ay bx by' px py i o) KT := by
  refine Wp.run gL ?_
  rw [lawDeq]
  have i0 : ix 0 := ⟨⟨by decide, by decide⟩, trivial⟩
  have i1 : ix 1 := ⟨⟨by decide, by decide⟩, trivial⟩
  have i2 : ix 2 := ⟨⟨by decide, by decide⟩, trivial⟩
  subst hi
  unfold QD
  generalize decide (Lft ax ay bx by' px py) = d
  cases o <;> cases d <;> simp_all

theorem lawAll : Wp Try.prog 0 d0 (init 61 [.agg [.int .i64 ax, .int .i64 ay], .agg [.int .i64 bx, .int .i64 by'], .agg [.int .i64 px, .int .i64 py]] [] 0) KT :=
  lawA _ _ _ _ _ _ (lawB _ _ _ _ _ _ fun hg => lawC _ _ _ _ _ _ hg (lawD _ _ _ _ _ _ _ _ hg (by
    by_cases ho : On ax ay bx by' px py
    · rw [decide_eq_true ho, decide_eq_false (fun hh => hh.1 ho)]; rfl
    · rw [decide_eq_false ho]
      by_cases hl : Lft ax ay bx by' px py
      · rw [decide_eq_true hl, decide_eq_true ⟨ho, hl⟩]; rfl
      · rw [decide_eq_false hl, decide_eq_false (fun hh => hl hh.2)]; rfl)))

end

theorem law : PureOk Try.prog 3 lawF := by
  refine pure_of_wp gL Try.func3 (c := d0) rfl (by kernel_rfl) ?_
  intro args v p h hp
  unfold lawF at h
  split at h
  · injection h with h; injection h with h1 h2; subst h1; subst h2
    exact ⟨rfl, rfl, rfl, lawAll _ _ _ _ _ _⟩
  · cases h

end Go.Proofs.Try.Sx
