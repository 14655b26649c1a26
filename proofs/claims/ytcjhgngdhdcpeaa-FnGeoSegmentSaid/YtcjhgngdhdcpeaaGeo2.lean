/- The law's own functions: sides, on, left, Raycast. -/
import Derived.Test.YtcjhgngdhdcpeaaGeo1
namespace Go.Proofs.Try.Sx
open Go Go.Sx Go.Proofs Go.Fl Go.Geo
set_option maxRecDepth 100000

def small6 (a b c d e f : Int) : Prop := (small a ∧ small b) ∧ (small c ∧ small d) ∧ (small e ∧ small f)

theorem mul_bound {x y : Int} {m n : Nat} (hx : x.natAbs ≤ m) (hy : y.natAbs ≤ n) : -((m * n : Nat) : Int) ≤ x * y ∧ x * y ≤ ((m * n : Nat) : Int) := by
  have := Nat.mul_le_mul hx hy
  rw [← Int.natAbs_mul] at this
  omega

theorem cross_wrap {ax ay bx by' px py : Int} (h : small6 ax ay bx by' px py) :
    IntKind.i64.wrap (IntKind.i64.wrap (IntKind.i64.wrap (bx - ax) * IntKind.i64.wrap (py - ay)) - IntKind.i64.wrap (IntKind.i64.wrap (by' - ay) * IntKind.i64.wrap (px - ax))) = cross ax ay bx by' px py := by
  unfold small6 small at h
  have m1 := mul_bound (show (bx - ax).natAbs ≤ 2097152 by omega) (show (py - ay).natAbs ≤ 2097152 by omega)
  have m2 := mul_bound (show (by' - ay).natAbs ≤ 2097152 by omega) (show (px - ax).natAbs ≤ 2097152 by omega)
  have w1 : IntKind.i64.wrap (bx - ax) = bx - ax := wrap64 (by omega) (by omega)
  have w2 : IntKind.i64.wrap (py - ay) = py - ay := wrap64 (by omega) (by omega)
  have w3 : IntKind.i64.wrap (by' - ay) = by' - ay := wrap64 (by omega) (by omega)
  have w4 : IntKind.i64.wrap (px - ax) = px - ax := wrap64 (by omega) (by omega)
  rw [w1, w2, w3, w4]
  rw [wrap64 (n := (bx - ax) * (py - ay)) (by omega) (by omega), wrap64 (n := (by' - ay) * (px - ax)) (by omega) (by omega), wrap64 (by omega) (by omega)]
  rfl

def sideF : PF := fun
  | [.agg [.int .i64 ax, .int .i64 ay], .agg [.int .i64 bx, .int .i64 by'], .agg [.int .i64 px, .int .i64 py]] =>
    some (.int .i64 (cross ax ay bx by' px py), some (small6 ax ay bx by' px py))
  | _ => none
theorem side : PureOk Try.prog 31 sideF := by
  refine pure_of_run g0 Try.func31 rfl (by kernel_rfl) ?_
  intro args v p h hp
  unfold sideF at h
  split at h
  · injection h with h; injection h with h1 h2; subst h1; subst h2
    exact ⟨rfl, rfl, rfl, cross_wrap hp⟩
  · cases h

theorem imin_le {x y z : Int} : imin x y ≤ z ↔ x ≤ z ∨ y ≤ z := by unfold imin; split <;> omega
theorem le_imax {x y z : Int} : z ≤ imax x y ↔ z ≤ x ∨ z ≤ y := by unfold imax; split <;> omega

def withinF : PF := fun
  | [.agg [.int .i64 ax, .int .i64 ay], .agg [.int .i64 bx, .int .i64 by'], .agg [.int .i64 px, .int .i64 py]] =>
    some (.bool (decide (btw ax bx px ∧ btw ay by' py)), none)
  | _ => none
theorem within : PureOk Try.prog 30 withinF := by
  refine pure_of_run g0 Try.func30 rfl (by kernel_rfl) ?_
  intro args v p h hp
  unfold withinF at h
  split at h
  · injection h with h; injection h with h1 h2; subst h1; subst h2
    refine ⟨rfl, rfl, rfl, ?_⟩
    repeat' (first | (intro h) | (refine And.intro ?_ ?_))
    all_goals (show (_ : Bool) = _)
    all_goals simp only [imin_le, le_imax, decide_eq_true_eq, decide_eq_false_iff_not] at *
    all_goals first
      | (intro hh; unfold btw at hh; omega)
      | exact decide_eq_decide.2 (by unfold btw; omega)
  · cases h

def GQ : Ctx := ⟨⟨tys, []⟩, [(30, pureCon withinF), (31, pureCon sideF)]⟩
theorem gQ : CtxOk Try.prog GQ := ⟨⟨tysOk, FlatsOk.nil⟩, GamOk.cons (.pure within) (GamOk.cons (.pure side) GamOk.nil), by kernel_rfl⟩

def onF : PF := fun
  | [.agg [.int .i64 ax, .int .i64 ay], .agg [.int .i64 bx, .int .i64 by'], .agg [.int .i64 px, .int .i64 py]] =>
    some (.bool (decide (On ax ay bx by' px py)), some (small6 ax ay bx by' px py))
  | _ => none
theorem on : PureOk Try.prog 10 onF := by
  refine pure_of_run gQ Try.func10 rfl (by kernel_rfl) ?_
  intro args v p h hp
  unfold onF at h
  split at h
  · rename_i ax ay bx by' px py
    injection h with h; injection h with h1 h2; subst h1; subst h2
    have hp : small6 _ _ _ _ _ _ := hp
    refine ⟨rfl, rfl, rfl, ?_⟩
    refine And.intro ?_ ?_
    · intro h
      have h := of_decide_eq_true h
      refine And.intro hp ?_
      show (cross ax ay bx by' px py == 0) = decide (On ax ay bx by' px py)
      by_cases hc : cross ax ay bx by' px py = 0
      · rw [decide_eq_true (show On ax ay bx by' px py from ⟨h.1, h.2, hc⟩), hc]; rfl
      · rw [decide_eq_false (show ¬ On ax ay bx by' px py from fun hh => hc hh.2.2)]; simpa using hc
    · intro h
      have h := of_decide_eq_false h
      exact decide_eq_false (fun hh => h ⟨hh.1, hh.2.1⟩)
  · cases h

def leftF : PF := fun
  | [.agg [.int .i64 ax, .int .i64 ay], .agg [.int .i64 bx, .int .i64 by'], .agg [.int .i64 px, .int .i64 py]] =>
    some (.bool (decide (Lft ax ay bx by' px py)), some (small6 ax ay bx by' px py))
  | _ => none
theorem left : PureOk Try.prog 11 leftF := by
  refine pure_of_run gQ Try.func11 rfl (by kernel_rfl) ?_
  intro args v p h hp
  unfold leftF at h
  split at h
  · rename_i ax ay bx by' px py
    injection h with h; injection h with h1 h2; subst h1; subst h2
    have hp : small6 _ _ _ _ _ _ := hp
    have hp' : small6 bx by' ax ay px py := ⟨hp.2.1, hp.1, hp.2.2⟩
    refine ⟨rfl, rfl, rfl, ?_⟩
    refine And.intro ?_ ?_
    · intro h
      have h := of_decide_eq_true h
      refine And.intro ?_ ?_
      · intro h1
        have h1 := of_decide_eq_true h1
        refine And.intro ?_ ?_
        · intro h2
          have h2 := of_decide_eq_true h2
          refine And.intro hp' ?_
          show decide (0 < cross bx by' ax ay px py) = decide (Lft ax ay bx by' px py)
          exact decide_eq_decide.2 (by unfold Lft; omega)
        · intro h2
          have h2 := of_decide_eq_false h2
          exact decide_eq_false (fun hh => by unfold Lft at hh; omega)
      · intro h1
        have h1 := of_decide_eq_false h1
        exact decide_eq_false (fun hh => by unfold Lft at hh; omega)
    · intro h
      have h := of_decide_eq_false h
      refine And.intro ?_ ?_
      · intro h1
        have h1 := of_decide_eq_true h1
        refine And.intro ?_ ?_
        · intro h2
          have h2 := of_decide_eq_true h2
          refine And.intro hp ?_
          show decide (0 < cross ax ay bx by' px py) = decide (Lft ax ay bx by' px py)
          exact decide_eq_decide.2 (by unfold Lft; omega)
        · intro h2
          have h2 := of_decide_eq_false h2
          exact decide_eq_false (fun hh => by unfold Lft at hh; omega)
      · intro h1
        have h1 := of_decide_eq_false h1
        exact decide_eq_false (fun hh => by unfold Lft at hh; omega)
  · cases h

/-! ### Raycast by whole numbers -/
def ptF : PF := fun
  | [.agg [.int .i64 x, .int .i64 y]] => some (.agg [.flt .f64 (ofI .f64 x), .flt .f64 (ofI .f64 y)], none)
  | _ => none
theorem pt : PureOk Try.prog 28 ptF := by
  refine pure_of_run g0 Try.func28 rfl (by kernel_rfl) ?_
  intro args v p h hp
  unfold ptF at h
  split at h
  · injection h with h; injection h with h1 h2; subst h1; subst h2
    refine ⟨rfl, rfl, rfl, ?_⟩
    exact ⟨rfl, rfl, trivial⟩
  · cases h

/-- The whole number that a float stands for. -/
noncomputable def wh (x : Nat) : Int := V x / 2 ^ U1
theorem wh_FI {x : Nat} {n : Int} (h : FI x n) : wh x = n := by
  unfold wh
  rw [h.2]
  exact Int.mul_ediv_cancel _ (Int.ne_of_gt (pow_pos' U1))

noncomputable def rayF : PF := fun
  | [.agg [.flt .f64 ax, .flt .f64 ay, .flt .f64 bx, .flt .f64 by'], .agg [.flt .f64 px, .flt .f64 py]] =>
    some (.agg [.bool (decide (¬ On (wh ax) (wh ay) (wh bx) (wh by') (wh px) (wh py) ∧ Lft (wh ax) (wh ay) (wh bx) (wh by') (wh px) (wh py))), .bool (decide (On (wh ax) (wh ay) (wh bx) (wh by') (wh px) (wh py)))],
      some (Pts ax ay bx by' px py (wh ax) (wh ay) (wh bx) (wh by') (wh px) (wh py)))
  | _ => none
theorem ray : PureOk Try.prog 29 rayF := by
  refine pure_of_wp gR Try.func29 (c := c0) rfl (by kernel_rfl) ?_
  intro args v p h hp
  unfold rayF at h
  split at h
  · injection h with h; injection h with h1 h2; subst h1; subst h2
    exact ⟨rfl, rfl, rfl, whole hp⟩
  · cases h

theorem pts_of {ax ay bx by' px py : Int} (h : small6 ax ay bx by' px py) : Pts (ofI .f64 ax) (ofI .f64 ay) (ofI .f64 bx) (ofI .f64 by') (ofI .f64 px) (ofI .f64 py) ax ay bx by' px py := by
  unfold small6 small at h
  exact ⟨FI_ofInt (by omega), FI_ofInt (by omega), FI_ofInt (by omega), FI_ofInt (by omega), FI_ofInt (by omega), FI_ofInt (by omega), by omega, by omega, by omega, by omega, by omega, by omega⟩

theorem wh_of {n : Int} (h : small n) : wh (ofI .f64 n) = n := wh_FI (FI_ofInt (by unfold small at h; omega))

def GI : Ctx := ⟨⟨tys, []⟩, []⟩
noncomputable def GJ : Ctx := ⟨⟨tys, []⟩, [(28, pureCon ptF), (29, pureCon rayF)]⟩
theorem gJ : CtxOk Try.prog GJ := ⟨⟨tysOk, FlatsOk.nil⟩, GamOk.cons (.pure pt) (GamOk.cons (.pure ray) GamOk.nil), by kernel_rfl⟩

def implF : PF := fun
  | [.agg [.int .i64 ax, .int .i64 ay], .agg [.int .i64 bx, .int .i64 by'], .agg [.int .i64 px, .int .i64 py]] =>
    some (.tup [.bool (decide (¬ On ax ay bx by' px py ∧ Lft ax ay bx by' px py)), .bool (decide (On ax ay bx by' px py))], some (small6 ax ay bx by' px py))
  | _ => none
set_option maxHeartbeats 2000000 in
theorem impl : PureOk Try.prog 9 implF := by
  refine pure_of_run gJ Try.func9 rfl (by kernel_rfl) ?_
  intro args v p h hp
  unfold implF at h
  split at h
  · rename_i ax ay bx by' px py
    injection h with h; injection h with h1 h2; subst h1; subst h2
    have hp : small6 ax ay bx by' px py := hp
    refine ⟨rfl, rfl, rfl, ?_⟩
    have w1 := wh_of hp.1.1
    have w2 := wh_of hp.1.2
    have w3 := wh_of hp.2.1.1
    have w4 := wh_of hp.2.1.2
    have w5 := wh_of hp.2.2.1
    have w6 := wh_of hp.2.2.2
    refine And.intro ?_ ?_
    · rw [w1, w2, w3, w4, w5, w6]; exact pts_of hp
    · refine And.intro (by kernel_rfl) ?_
      refine And.intro (by kernel_rfl) ?_
      refine And.intro ?_ (And.intro ?_ trivial)
      · show decide _ = decide (¬ On ax ay bx by' px py ∧ Lft ax ay bx by' px py)
        rw [w1, w2, w3, w4, w5, w6]
      · show decide _ = decide (On ax ay bx by' px py)
        rw [w1, w2, w3, w4, w5, w6]
  · cases h

end Go.Proofs.Try.Sx
