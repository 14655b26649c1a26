/- What a segment says: the parts. -/
import Derived.Test.YtcjhgngdhdcpeaaSeg1
namespace Go.Proofs.Try.Sx
open Go Go.Sx Go.Proofs Go.Fl Go.Geo
set_option maxRecDepth 100000

noncomputable def GC : Ctx := ⟨⟨tys, []⟩, [(29, pureCon rayF), (58, pureCon eqZeroF), (44, pureCon fromPF)]⟩
theorem gC : CtxOk Try.prog GC := ⟨⟨tysOk, FlatsOk.nil⟩, GamOk.cons (.pure ray) (GamOk.cons (.pure eqZero) (GamOk.cons (.pure fromP) GamOk.nil)), by kernel_rfl⟩

def PW (ax ay bx by' px py : Nat) : Prop := Pts ax ay bx by' px py (wh ax) (wh ay) (wh bx) (wh by') (wh px) (wh py)
noncomputable def onW (ax ay bx by' px py : Nat) : Bool := decide (On (wh ax) (wh ay) (wh bx) (wh by') (wh px) (wh py))

noncomputable def sHasPF : PF := fun
  | [.agg [.flt .f64 ax, .flt .f64 ay, .flt .f64 bx, .flt .f64 by'], .agg [.flt .f64 px, .flt .f64 py]] => some (.bool (onW ax ay bx by' px py), some (PW ax ay bx by' px py))
  | _ => none
theorem vc_sHasP (R : SV → Prop) (ax ay bx by' px py : Nat) : runA GC 0 [] [] (codeOf Try.f48) (init Try.f48.ntmps [.agg [.flt .f64 ax, .flt .f64 ay, .flt .f64 bx, .flt .f64 by'], .agg [.flt .f64 px, .flt .f64 py]] [] 0) (endK GC.E.T Try.f48.results.toList fun _ v => R v) = (
  Go.Proofs.Try.Sx.Pts ax ay bx by' px py (Go.Proofs.Try.Sx.wh ax) (Go.Proofs.Try.Sx.wh ay) (Go.Proofs.Try.Sx.wh bx)
      (Go.Proofs.Try.Sx.wh by') (Go.Proofs.Try.Sx.wh px) (Go.Proofs.Try.Sx.wh py) ∧
    R
      (Go.Sx.SV.bool
        (Decidable.decide
          (Go.Geo.On (Go.Proofs.Try.Sx.wh ax) (Go.Proofs.Try.Sx.wh ay) (Go.Proofs.Try.Sx.wh bx) (Go.Proofs.Try.Sx.wh by')
            (Go.Proofs.Try.Sx.wh px) (Go.Proofs.Try.Sx.wh py))))) := by kernel_rfl
theorem sHasP : PureOk Try.prog 48 sHasPF := by
  refine pure_of_vc gC Try.func48 rfl (by kernel_rfl) ?_
  intro args v p h hp
  unfold sHasPF at h
  split at h
  · rename_i ax ay bx by' px py
    injection h with h; injection h with h1 h2; subst h1; subst h2
    have hp : PW ax ay bx by' px py := hp
    refine ⟨rfl, _, _, (vc_sHasP _ ax ay bx by' px py).mpr ?_⟩
    exact ⟨hp, by simp [eqv, onW]⟩
  · cases h
noncomputable def sHasSF : PF := fun
  | [.agg [.flt .f64 ax, .flt .f64 ay, .flt .f64 bx, .flt .f64 by'], .agg [.flt .f64 cx, .flt .f64 cy, .flt .f64 dx, .flt .f64 dy]] => some (.bool (onW ax ay bx by' cx cy && onW ax ay bx by' dx dy), some (PW ax ay bx by' cx cy ∧ PW ax ay bx by' dx dy))
  | _ => none
theorem vc_sHasS (R : SV → Prop) (ax ay bx by' cx cy dx dy : Nat) : runA GC 0 [] [] (codeOf Try.f50) (init Try.f50.ntmps [.agg [.flt .f64 ax, .flt .f64 ay, .flt .f64 bx, .flt .f64 by'], .agg [.flt .f64 cx, .flt .f64 cy, .flt .f64 dx, .flt .f64 dy]] [] 0) (endK GC.E.T Try.f50.results.toList fun _ v => R v) = (
  Go.Proofs.Try.Sx.Pts ax ay bx by' cx cy (Go.Proofs.Try.Sx.wh ax) (Go.Proofs.Try.Sx.wh ay) (Go.Proofs.Try.Sx.wh bx)
      (Go.Proofs.Try.Sx.wh by') (Go.Proofs.Try.Sx.wh cx) (Go.Proofs.Try.Sx.wh cy) ∧
    (Decidable.decide
            (Go.Geo.On (Go.Proofs.Try.Sx.wh ax) (Go.Proofs.Try.Sx.wh ay) (Go.Proofs.Try.Sx.wh bx)
              (Go.Proofs.Try.Sx.wh by') (Go.Proofs.Try.Sx.wh cx) (Go.Proofs.Try.Sx.wh cy)) =
          Bool.true →
        Go.Proofs.Try.Sx.Pts ax ay bx by' dx dy (Go.Proofs.Try.Sx.wh ax) (Go.Proofs.Try.Sx.wh ay) (Go.Proofs.Try.Sx.wh bx)
            (Go.Proofs.Try.Sx.wh by') (Go.Proofs.Try.Sx.wh dx) (Go.Proofs.Try.Sx.wh dy) ∧
          R
            (Go.Sx.SV.bool
              (Decidable.decide
                (Go.Geo.On (Go.Proofs.Try.Sx.wh ax) (Go.Proofs.Try.Sx.wh ay) (Go.Proofs.Try.Sx.wh bx)
                  (Go.Proofs.Try.Sx.wh by') (Go.Proofs.Try.Sx.wh dx) (Go.Proofs.Try.Sx.wh dy))))) ∧
      (Decidable.decide
            (Go.Geo.On (Go.Proofs.Try.Sx.wh ax) (Go.Proofs.Try.Sx.wh ay) (Go.Proofs.Try.Sx.wh bx)
              (Go.Proofs.Try.Sx.wh by') (Go.Proofs.Try.Sx.wh cx) (Go.Proofs.Try.Sx.wh cy)) =
          Bool.false →
        R Go.Sx.SV.ff)) := by kernel_rfl
theorem sHasS : PureOk Try.prog 50 sHasSF := by
  refine pure_of_vc gC Try.func50 rfl (by kernel_rfl) ?_
  intro args v p h hp
  unfold sHasSF at h
  split at h
  · rename_i ax ay bx by' cx cy dx dy
    injection h with h; injection h with h1 h2; subst h1; subst h2
    have hp : PW ax ay bx by' cx cy ∧ PW ax ay bx by' dx dy := hp
    refine ⟨rfl, _, _, (vc_sHasS _ ax ay bx by' cx cy dx dy).mpr ?_⟩
    simp only [eqv]
    refine ⟨hp.1, fun h => ⟨hp.2, ?_⟩, fun h => ?_⟩
    · unfold onW; rw [h, Bool.true_and]
    · unfold onW; rw [h, Bool.false_and]
  · cases h
noncomputable def sCollF : PF := fun
  | [.agg [.flt .f64 ax, .flt .f64 ay, .flt .f64 bx, .flt .f64 by'], .agg [.flt .f64 px, .flt .f64 py]] => some (.bool (decide (xp (wh px - wh ax) (wh py - wh ay) (wh bx - wh ax) (wh by' - wh ay) = 0)), some (P8 ax ay bx by' px py px py (wh ax) (wh ay) (wh bx) (wh by') (wh px) (wh py) (wh px) (wh py)))
  | _ => none
theorem vc_sColl (R : SV → Prop) (ax ay bx by' px py : Nat) : runA GC 0 [] [] (codeOf Try.f49) (init Try.f49.ntmps [.agg [.flt .f64 ax, .flt .f64 ay, .flt .f64 bx, .flt .f64 by'], .agg [.flt .f64 px, .flt .f64 py]] [] 0) (endK GC.E.T Try.f49.results.toList fun _ v => R v) = (
  Go.Sx.fok Go.BinOp.sub Go.FloatKind.f64 px ax ∧
    Go.Sx.fok Go.BinOp.sub Go.FloatKind.f64 py ay ∧
      Bool.true = Bool.true ∧
        Go.Sx.fok Go.BinOp.sub Go.FloatKind.f64 bx ax ∧
          Go.Sx.fok Go.BinOp.sub Go.FloatKind.f64 by' ay ∧
            Bool.true = Bool.true ∧
              Go.Sx.fok Go.BinOp.mul Go.FloatKind.f64 (Go.Sx.fop Go.BinOp.sub Go.FloatKind.f64 px ax)
                  (Go.Sx.fop Go.BinOp.sub Go.FloatKind.f64 by' ay) ∧
                Go.Sx.fok Go.BinOp.mul Go.FloatKind.f64 (Go.Sx.fop Go.BinOp.sub Go.FloatKind.f64 py ay)
                    (Go.Sx.fop Go.BinOp.sub Go.FloatKind.f64 bx ax) ∧
                  Go.Sx.fok Go.BinOp.sub Go.FloatKind.f64
                      (Go.Sx.fop Go.BinOp.mul Go.FloatKind.f64 (Go.Sx.fop Go.BinOp.sub Go.FloatKind.f64 px ax)
                        (Go.Sx.fop Go.BinOp.sub Go.FloatKind.f64 by' ay))
                      (Go.Sx.fop Go.BinOp.mul Go.FloatKind.f64 (Go.Sx.fop Go.BinOp.sub Go.FloatKind.f64 py ay)
                        (Go.Sx.fop Go.BinOp.sub Go.FloatKind.f64 bx ax)) ∧
                    R
                      (Go.Sx.SV.bool
                        !(Go.Sx.fLt Go.FloatKind.f64
                              (Go.Sx.fop Go.BinOp.sub Go.FloatKind.f64
                                (Go.Sx.fop Go.BinOp.mul Go.FloatKind.f64 (Go.Sx.fop Go.BinOp.sub Go.FloatKind.f64 px ax)
                                  (Go.Sx.fop Go.BinOp.sub Go.FloatKind.f64 by' ay))
                                (Go.Sx.fop Go.BinOp.mul Go.FloatKind.f64 (Go.Sx.fop Go.BinOp.sub Go.FloatKind.f64 py ay)
                                  (Go.Sx.fop Go.BinOp.sub Go.FloatKind.f64 bx ax)))
                              (0 : Nat) ||
                            Go.Sx.fGt Go.FloatKind.f64
                              (Go.Sx.fop Go.BinOp.sub Go.FloatKind.f64
                                (Go.Sx.fop Go.BinOp.mul Go.FloatKind.f64 (Go.Sx.fop Go.BinOp.sub Go.FloatKind.f64 px ax)
                                  (Go.Sx.fop Go.BinOp.sub Go.FloatKind.f64 by' ay))
                                (Go.Sx.fop Go.BinOp.mul Go.FloatKind.f64 (Go.Sx.fop Go.BinOp.sub Go.FloatKind.f64 py ay)
                                  (Go.Sx.fop Go.BinOp.sub Go.FloatKind.f64 bx ax)))
                              (0 : Nat)))) := by kernel_rfl
theorem sColl : PureOk Try.prog 49 sCollF := by
  refine pure_of_vc gC Try.func49 rfl (by kernel_rfl) ?_
  intro args v p h hp
  unfold sCollF at h
  split at h
  · rename_i ax ay bx by' px py
    injection h with h; injection h with h1 h2; subst h1; subst h2
    have hp : P8 ax ay bx by' px py px py (wh ax) (wh ay) (wh bx) (wh by') (wh px) (wh py) (wh px) (wh py) := hp
    refine ⟨rfl, _, _, (vc_sColl _ ax ay bx by' px py).mpr ?_⟩
    obtain ⟨⟨sa1, sa2, sb1, sb2⟩, sc1, sc2, _, _⟩ := hp.s
    obtain ⟨k1, f1, n1⟩ := sub_w hp.cx hp.ax sc1 sa1
    obtain ⟨k2, f2, n2⟩ := sub_w hp.cy hp.ay sc2 sa2
    obtain ⟨k3, f3, n3⟩ := sub_w hp.bx hp.ax sb1 sa1
    obtain ⟨k4, f4, n4⟩ := sub_w hp.by' hp.ay sb2 sa2
    obtain ⟨u1, u2, u3, fu, nu⟩ := cr_w f1 f2 f3 f4 n1 n2 n3 n4
    exact ⟨k1, k2, rfl, k3, k4, rfl, u1, u2, u3, zt fu⟩
  · cases h
def fmin (x y : Nat) : Nat := if fGt .f64 x y = true then y else x
def fmax (x y : Nat) : Nat := if fGt .f64 x y = true then x else y
def sRectF : PF := fun
  | [.agg [.flt .f64 ax, .flt .f64 ay, .flt .f64 bx, .flt .f64 by']] => some (.agg [.flt .f64 (fmin ax bx), .flt .f64 (fmin ay by'), .flt .f64 (fmax ax bx), .flt .f64 (fmax ay by')], none)
  | _ => none
theorem vc_sRect (R : SV → Prop) (ax ay bx by' : Nat) : runA GC 0 [] [] (codeOf Try.f53) (init Try.f53.ntmps [.agg [.flt .f64 ax, .flt .f64 ay, .flt .f64 bx, .flt .f64 by']] [] 0) (endK GC.E.T Try.f53.results.toList fun _ v => R v) = (
  (Go.Sx.fGt Go.FloatKind.f64 ax bx = Bool.true →
      (Go.Sx.fGt Go.FloatKind.f64 ay by' = Bool.true →
          R
            (Go.Sx.SV.agg
              [Go.Sx.SV.flt Go.FloatKind.f64 bx, Go.Sx.SV.flt Go.FloatKind.f64 by', Go.Sx.SV.flt Go.FloatKind.f64 ax,
                Go.Sx.SV.flt Go.FloatKind.f64 ay])) ∧
        (Go.Sx.fGt Go.FloatKind.f64 ay by' = Bool.false →
          R
            (Go.Sx.SV.agg
              [Go.Sx.SV.flt Go.FloatKind.f64 bx, Go.Sx.SV.flt Go.FloatKind.f64 ay, Go.Sx.SV.flt Go.FloatKind.f64 ax,
                Go.Sx.SV.flt Go.FloatKind.f64 by']))) ∧
    (Go.Sx.fGt Go.FloatKind.f64 ax bx = Bool.false →
      (Go.Sx.fGt Go.FloatKind.f64 ay by' = Bool.true →
          R
            (Go.Sx.SV.agg
              [Go.Sx.SV.flt Go.FloatKind.f64 ax, Go.Sx.SV.flt Go.FloatKind.f64 by', Go.Sx.SV.flt Go.FloatKind.f64 bx,
                Go.Sx.SV.flt Go.FloatKind.f64 ay])) ∧
        (Go.Sx.fGt Go.FloatKind.f64 ay by' = Bool.false →
          R
            (Go.Sx.SV.agg
              [Go.Sx.SV.flt Go.FloatKind.f64 ax, Go.Sx.SV.flt Go.FloatKind.f64 ay, Go.Sx.SV.flt Go.FloatKind.f64 bx,
                Go.Sx.SV.flt Go.FloatKind.f64 by'])))) := by kernel_rfl
theorem sRect : PureOk Try.prog 53 sRectF := by
  refine pure_of_vc gC Try.func53 rfl (by kernel_rfl) ?_
  intro args v p h hp
  unfold sRectF at h
  split at h
  · rename_i ax ay bx by'
    injection h with h; injection h with h1 h2; subst h1; subst h2
    clear hp
    refine ⟨rfl, _, _, (vc_sRect _ ax ay bx by').mpr ?_⟩
    simp only [eqv, eqvL, fkEq_self, fmin, fmax]
    grind
  · cases h
def cornersPF : PF := fun
  | [.agg [.flt .f64 ax, .flt .f64 ay, .flt .f64 bx, .flt .f64 by']] => some (.agg [.int .i64 (toI .f64 ax .i64), .int .i64 (toI .f64 ay .i64), .int .i64 (toI .f64 bx .i64), .int .i64 (toI .f64 by' .i64)], some ((toIok .f64 ax .i64 ∧ toIok .f64 ay .i64) ∧ (toIok .f64 bx .i64 ∧ toIok .f64 by' .i64)))
  | _ => none
theorem vc_cornersP (R : SV → Prop) (ax ay bx by' : Nat) : runA GC 0 [] [] (codeOf Try.f52) (init Try.f52.ntmps [.agg [.flt .f64 ax, .flt .f64 ay, .flt .f64 bx, .flt .f64 by']] [] 0) (endK GC.E.T Try.f52.results.toList fun _ v => R v) = (
  (Go.Sx.toIok Go.FloatKind.f64 ax Go.IntKind.i64 ∧ Go.Sx.toIok Go.FloatKind.f64 ay Go.IntKind.i64) ∧
    (Go.Sx.toIok Go.FloatKind.f64 bx Go.IntKind.i64 ∧ Go.Sx.toIok Go.FloatKind.f64 by' Go.IntKind.i64) ∧
      Bool.true = Bool.true ∧
        R
          (Go.Sx.SV.agg
            [Go.Sx.SV.int Go.IntKind.i64 (Go.Sx.toI Go.FloatKind.f64 ax Go.IntKind.i64),
              Go.Sx.SV.int Go.IntKind.i64 (Go.Sx.toI Go.FloatKind.f64 ay Go.IntKind.i64),
              Go.Sx.SV.int Go.IntKind.i64 (Go.Sx.toI Go.FloatKind.f64 bx Go.IntKind.i64),
              Go.Sx.SV.int Go.IntKind.i64 (Go.Sx.toI Go.FloatKind.f64 by' Go.IntKind.i64)])) := by kernel_rfl
theorem cornersP : PureOk Try.prog 52 cornersPF := by
  refine pure_of_vc gC Try.func52 rfl (by kernel_rfl) ?_
  intro args v p h hp
  unfold cornersPF at h
  split at h
  · rename_i ax ay bx by'
    injection h with h; injection h with h1 h2; subst h1; subst h2
    have hp : (toIok .f64 ax .i64 ∧ toIok .f64 ay .i64) ∧ (toIok .f64 bx .i64 ∧ toIok .f64 by' .i64) := hp
    refine ⟨rfl, _, _, (vc_cornersP _ ax ay bx by').mpr ?_⟩
    simp [eqv, eqvL, kEq_self, hp]
  · cases h

/-! ### Whole numbers -/
def sgn (n : Int) : Int := if 0 < n then 1 else if n < 0 then -1 else 0
def gSignF : PF := fun
  | [.int .i64 n] => some (.int .i64 (sgn n), none)
  | _ => none
theorem vc_gSign (R : SV → Prop) (n : Int) : runA G0 0 [] [] (codeOf Try.f59) (init Try.f59.ntmps [.int .i64 n] [] 0) (endK G0.E.T Try.f59.results.toList fun _ v => R v) = (
  (Decidable.decide ((0 : Int) < n) = Bool.true → R (Go.Sx.SV.int Go.IntKind.i64 (1 : Int))) ∧
    (Decidable.decide ((0 : Int) < n) = Bool.false →
      (Decidable.decide (n < (0 : Int)) = Bool.true → R (Go.Sx.SV.int Go.IntKind.i64 (-1 : Int))) ∧
        (Decidable.decide (n < (0 : Int)) = Bool.false → R (Go.Sx.SV.int Go.IntKind.i64 (0 : Int))))) := by kernel_rfl
theorem gSign : PureOk Try.prog 59 gSignF := by
  refine pure_of_vc g0 Try.func59 rfl (by kernel_rfl) ?_
  intro args v p h hp
  unfold gSignF at h
  split at h
  · rename_i n
    injection h with h; injection h with h1 h2; subst h1; subst h2
    clear hp
    refine ⟨rfl, _, _, (vc_gSign _ n).mpr ?_⟩
    simp only [eqv, kEq_self, sgn]
    grind
  · cases h
def GD : Ctx := ⟨⟨tys, []⟩, [(10, pureCon onF), (31, pureCon sideF), (59, pureCon gSignF)]⟩
theorem gD : CtxOk Try.prog GD := ⟨⟨tysOk, FlatsOk.nil⟩, GamOk.cons (.pure on) (GamOk.cons (.pure side) (GamOk.cons (.pure gSign) GamOk.nil)), by kernel_rfl⟩
def gCollF : PF := fun
  | [.agg [.int .i64 ax, .int .i64 ay], .agg [.int .i64 bx, .int .i64 by'], .agg [.int .i64 px, .int .i64 py]] => some (.bool (decide (cross ax ay bx by' px py = 0)), some (small6 ax ay bx by' px py))
  | _ => none
theorem vc_gColl (R : SV → Prop) (ax ay bx by' px py : Int) : runA GD 0 [] [] (codeOf Try.f24) (init Try.f24.ntmps [.agg [.int .i64 ax, .int .i64 ay], .agg [.int .i64 bx, .int .i64 by'], .agg [.int .i64 px, .int .i64 py]] [] 0) (endK GD.E.T Try.f24.results.toList fun _ v => R v) = (
  Go.Proofs.Try.Sx.small6 ax ay bx by' px py ∧ R (Go.Sx.SV.bool (Go.Geo.cross ax ay bx by' px py == (0 : Int)))) := by kernel_rfl
theorem gColl : PureOk Try.prog 24 gCollF := by
  refine pure_of_vc gD Try.func24 rfl (by kernel_rfl) ?_
  intro args v p h hp
  unfold gCollF at h
  split at h
  · rename_i ax ay bx by' px py
    injection h with h; injection h with h1 h2; subst h1; subst h2
    have hp : small6 ax ay bx by' px py := hp
    refine ⟨rfl, _, _, (vc_gColl _ ax ay bx by' px py).mpr ?_⟩
    refine ⟨hp, ?_⟩
    simp only [eqv]
    grind
  · cases h

def sm8 (a1 a2 b1 b2 c1 c2 d1 d2 : Int) : Prop := (small a1 ∧ small a2 ∧ small b1 ∧ small b2) ∧ (small c1 ∧ small c2 ∧ small d1 ∧ small d2)
def GMeet (a1 a2 b1 b2 c1 c2 d1 d2 : Int) : Prop := On a1 a2 b1 b2 c1 c2 ∨ On a1 a2 b1 b2 d1 d2 ∨ On c1 c2 d1 d2 a1 a2 ∨ On c1 c2 d1 d2 b1 b2 ∨
  (sgn (cross a1 a2 b1 b2 c1 c2) * sgn (cross a1 a2 b1 b2 d1 d2) < 0 ∧ sgn (cross c1 c2 d1 d2 a1 a2) * sgn (cross c1 c2 d1 d2 b1 b2) < 0)
instance (a b c d e f g h : Int) : Decidable (GMeet a b c d e f g h) := by unfold GMeet; infer_instance
def GCov (a1 a2 b1 b2 c1 c2 d1 d2 : Int) : Prop := On c1 c2 d1 d2 a1 a2 ∧ On c1 c2 d1 d2 b1 b2 ∧ ¬ On a1 a2 b1 b2 c1 c2 ∧ ¬ On a1 a2 b1 b2 d1 d2
instance (a b c d e f g h : Int) : Decidable (GCov a b c d e f g h) := by unfold GCov; infer_instance
theorem sgn_wrap (x y : Int) : IntKind.i64.wrap (sgn x * sgn y) = sgn x * sgn y := by
  unfold sgn
  repeat' split
  all_goals decide

def gMeetF : PF := fun
  | [.agg [.int .i64 a1, .int .i64 a2], .agg [.int .i64 b1, .int .i64 b2], .agg [.int .i64 c1, .int .i64 c2], .agg [.int .i64 d1, .int .i64 d2]] => some (.bool (decide (GMeet a1 a2 b1 b2 c1 c2 d1 d2)), some (sm8 a1 a2 b1 b2 c1 c2 d1 d2))
  | _ => none
theorem vc_gMeet (R : SV → Prop) (a1 a2 b1 b2 c1 c2 d1 d2 : Int) : runA GD 0 [] [] (codeOf Try.f54) (init Try.f54.ntmps [.agg [.int .i64 a1, .int .i64 a2], .agg [.int .i64 b1, .int .i64 b2], .agg [.int .i64 c1, .int .i64 c2], .agg [.int .i64 d1, .int .i64 d2]] [] 0) (endK GD.E.T Try.f54.results.toList fun _ v => R v) = (
  Go.Proofs.Try.Sx.small6 a1 a2 b1 b2 c1 c2 ∧
    (Decidable.decide (Go.Geo.On a1 a2 b1 b2 c1 c2) = Bool.true → R Go.Sx.SV.tt) ∧
      (Decidable.decide (Go.Geo.On a1 a2 b1 b2 c1 c2) = Bool.false →
        Go.Proofs.Try.Sx.small6 a1 a2 b1 b2 d1 d2 ∧
          (Decidable.decide (Go.Geo.On a1 a2 b1 b2 d1 d2) = Bool.true → R Go.Sx.SV.tt) ∧
            (Decidable.decide (Go.Geo.On a1 a2 b1 b2 d1 d2) = Bool.false →
              Go.Proofs.Try.Sx.small6 c1 c2 d1 d2 a1 a2 ∧
                (Decidable.decide (Go.Geo.On c1 c2 d1 d2 a1 a2) = Bool.true → R Go.Sx.SV.tt) ∧
                  (Decidable.decide (Go.Geo.On c1 c2 d1 d2 a1 a2) = Bool.false →
                    Go.Proofs.Try.Sx.small6 c1 c2 d1 d2 b1 b2 ∧
                      (Decidable.decide (Go.Geo.On c1 c2 d1 d2 b1 b2) = Bool.true → R Go.Sx.SV.tt) ∧
                        (Decidable.decide (Go.Geo.On c1 c2 d1 d2 b1 b2) = Bool.false →
                          (Decidable.decide
                                  (Go.IntKind.wrap Go.IntKind.i64
                                      (Go.Proofs.Try.Sx.sgn (Go.Geo.cross a1 a2 b1 b2 c1 c2) *
                                        Go.Proofs.Try.Sx.sgn (Go.Geo.cross a1 a2 b1 b2 d1 d2)) <
                                    (0 : Int)) =
                                Bool.true →
                              Go.Proofs.Try.Sx.small6 a1 a2 b1 b2 c1 c2 ∧
                                Go.Proofs.Try.Sx.small6 a1 a2 b1 b2 d1 d2 ∧
                                  Decidable.decide
                                        (Go.IntKind.wrap Go.IntKind.i64
                                            (Go.Proofs.Try.Sx.sgn (Go.Geo.cross a1 a2 b1 b2 c1 c2) *
                                              Go.Proofs.Try.Sx.sgn (Go.Geo.cross a1 a2 b1 b2 d1 d2)) <
                                          (0 : Int)) =
                                      Bool.true ∧
                                    Go.Proofs.Try.Sx.small6 c1 c2 d1 d2 a1 a2 ∧
                                      Go.Proofs.Try.Sx.small6 c1 c2 d1 d2 b1 b2 ∧
                                        Bool.true = Bool.true ∧
                                          R
                                            (Go.Sx.SV.bool
                                              (Decidable.decide
                                                (Go.IntKind.wrap Go.IntKind.i64
                                                    (Go.Proofs.Try.Sx.sgn (Go.Geo.cross c1 c2 d1 d2 a1 a2) *
                                                      Go.Proofs.Try.Sx.sgn (Go.Geo.cross c1 c2 d1 d2 b1 b2)) <
                                                  (0 : Int))))) ∧
                            (Decidable.decide
                                  (Go.IntKind.wrap Go.IntKind.i64
                                      (Go.Proofs.Try.Sx.sgn (Go.Geo.cross a1 a2 b1 b2 c1 c2) *
                                        Go.Proofs.Try.Sx.sgn (Go.Geo.cross a1 a2 b1 b2 d1 d2)) <
                                    (0 : Int)) =
                                Bool.false →
                              Go.Proofs.Try.Sx.small6 a1 a2 b1 b2 c1 c2 ∧
                                Go.Proofs.Try.Sx.small6 a1 a2 b1 b2 d1 d2 ∧
                                  Decidable.decide
                                        (Go.IntKind.wrap Go.IntKind.i64
                                            (Go.Proofs.Try.Sx.sgn (Go.Geo.cross a1 a2 b1 b2 c1 c2) *
                                              Go.Proofs.Try.Sx.sgn (Go.Geo.cross a1 a2 b1 b2 d1 d2)) <
                                          (0 : Int)) =
                                      Bool.false ∧
                                    Bool.true = Bool.true ∧ R Go.Sx.SV.ff)))))) := by kernel_rfl
theorem gMeet : PureOk Try.prog 54 gMeetF := by
  refine pure_of_vc gD Try.func54 rfl (by kernel_rfl) ?_
  intro args v p h hp
  unfold gMeetF at h
  split at h
  · rename_i a1 a2 b1 b2 c1 c2 d1 d2
    injection h with h; injection h with h1 h2; subst h1; subst h2
    have hp : sm8 a1 a2 b1 b2 c1 c2 d1 d2 := hp
    refine ⟨rfl, _, _, (vc_gMeet _ a1 a2 b1 b2 c1 c2 d1 d2).mpr ?_⟩
    have m1 : small6 a1 a2 b1 b2 c1 c2 := ⟨⟨hp.1.1, hp.1.2.1⟩, ⟨hp.1.2.2.1, hp.1.2.2.2⟩, hp.2.1, hp.2.2.1⟩
    have m2 : small6 a1 a2 b1 b2 d1 d2 := ⟨⟨hp.1.1, hp.1.2.1⟩, ⟨hp.1.2.2.1, hp.1.2.2.2⟩, hp.2.2.2.1, hp.2.2.2.2⟩
    have m3 : small6 c1 c2 d1 d2 a1 a2 := ⟨⟨hp.2.1, hp.2.2.1⟩, ⟨hp.2.2.2.1, hp.2.2.2.2⟩, hp.1.1, hp.1.2.1⟩
    have m4 : small6 c1 c2 d1 d2 b1 b2 := ⟨⟨hp.2.1, hp.2.2.1⟩, ⟨hp.2.2.2.1, hp.2.2.2.2⟩, hp.1.2.2.1, hp.1.2.2.2⟩
    simp only [eqv, sgn_wrap, m1, m2, m3, m4, true_and, GMeet]
    grind
  · cases h
def gCovF : PF := fun
  | [.agg [.int .i64 a1, .int .i64 a2], .agg [.int .i64 b1, .int .i64 b2], .agg [.int .i64 c1, .int .i64 c2], .agg [.int .i64 d1, .int .i64 d2]] => some (.bool (decide (GCov a1 a2 b1 b2 c1 c2 d1 d2)), some (sm8 a1 a2 b1 b2 c1 c2 d1 d2))
  | _ => none
theorem vc_gCov (R : SV → Prop) (a1 a2 b1 b2 c1 c2 d1 d2 : Int) : runA GD 0 [] [] (codeOf Try.f27) (init Try.f27.ntmps [.agg [.int .i64 a1, .int .i64 a2], .agg [.int .i64 b1, .int .i64 b2], .agg [.int .i64 c1, .int .i64 c2], .agg [.int .i64 d1, .int .i64 d2]] [] 0) (endK GD.E.T Try.f27.results.toList fun _ v => R v) = (
  Go.Proofs.Try.Sx.small6 c1 c2 d1 d2 a1 a2 ∧
    (Decidable.decide (Go.Geo.On c1 c2 d1 d2 a1 a2) = Bool.true →
        Go.Proofs.Try.Sx.small6 c1 c2 d1 d2 b1 b2 ∧
          (Decidable.decide (Go.Geo.On c1 c2 d1 d2 b1 b2) = Bool.true →
              Go.Proofs.Try.Sx.small6 a1 a2 b1 b2 c1 c2 ∧
                ((!Decidable.decide (Go.Geo.On a1 a2 b1 b2 c1 c2)) = Bool.true →
                    Go.Proofs.Try.Sx.small6 a1 a2 b1 b2 d1 d2 ∧
                      R (Go.Sx.SV.bool !Decidable.decide (Go.Geo.On a1 a2 b1 b2 d1 d2))) ∧
                  ((!Decidable.decide (Go.Geo.On a1 a2 b1 b2 c1 c2)) = Bool.false → R Go.Sx.SV.ff)) ∧
            (Decidable.decide (Go.Geo.On c1 c2 d1 d2 b1 b2) = Bool.false → R Go.Sx.SV.ff)) ∧
      (Decidable.decide (Go.Geo.On c1 c2 d1 d2 a1 a2) = Bool.false → R Go.Sx.SV.ff)) := by kernel_rfl
theorem gCov : PureOk Try.prog 27 gCovF := by
  refine pure_of_vc gD Try.func27 rfl (by kernel_rfl) ?_
  intro args v p h hp
  unfold gCovF at h
  split at h
  · rename_i a1 a2 b1 b2 c1 c2 d1 d2
    injection h with h; injection h with h1 h2; subst h1; subst h2
    have hp : sm8 a1 a2 b1 b2 c1 c2 d1 d2 := hp
    refine ⟨rfl, _, _, (vc_gCov _ a1 a2 b1 b2 c1 c2 d1 d2).mpr ?_⟩
    have m1 : small6 a1 a2 b1 b2 c1 c2 := ⟨⟨hp.1.1, hp.1.2.1⟩, ⟨hp.1.2.2.1, hp.1.2.2.2⟩, hp.2.1, hp.2.2.1⟩
    have m2 : small6 a1 a2 b1 b2 d1 d2 := ⟨⟨hp.1.1, hp.1.2.1⟩, ⟨hp.1.2.2.1, hp.1.2.2.2⟩, hp.2.2.2.1, hp.2.2.2.2⟩
    have m3 : small6 c1 c2 d1 d2 a1 a2 := ⟨⟨hp.2.1, hp.2.2.1⟩, ⟨hp.2.2.2.1, hp.2.2.2.2⟩, hp.1.1, hp.1.2.1⟩
    have m4 : small6 c1 c2 d1 d2 b1 b2 := ⟨⟨hp.2.1, hp.2.2.1⟩, ⟨hp.2.2.2.1, hp.2.2.2.2⟩, hp.1.2.2.1, hp.1.2.2.2⟩
    simp only [eqv, m1, m2, m3, m4, true_and, GCov]
    grind
  · cases h
def GE' : Ctx := ⟨⟨tys, []⟩, [(54, pureCon gMeetF), (27, pureCon gCovF)]⟩
theorem gE' : CtxOk Try.prog GE' := ⟨⟨tysOk, FlatsOk.nil⟩, GamOk.cons (.pure gMeet) (GamOk.cons (.pure gCov) GamOk.nil), by kernel_rfl⟩
def gPlainF : PF := fun
  | [.agg [.int .i64 a1, .int .i64 a2], .agg [.int .i64 b1, .int .i64 b2], .agg [.int .i64 c1, .int .i64 c2], .agg [.int .i64 d1, .int .i64 d2]] => some (.tup [.bool (decide (GMeet a1 a2 b1 b2 c1 c2 d1 d2)), .bool (decide (¬ GCov a1 a2 b1 b2 c1 c2 d1 d2 ∧ ¬ GCov c1 c2 d1 d2 a1 a2 b1 b2))], some (sm8 a1 a2 b1 b2 c1 c2 d1 d2))
  | _ => none
theorem vc_gPlain (R : SV → Prop) (a1 a2 b1 b2 c1 c2 d1 d2 : Int) : runA GE' 0 [] [] (codeOf Try.f26) (init Try.f26.ntmps [.agg [.int .i64 a1, .int .i64 a2], .agg [.int .i64 b1, .int .i64 b2], .agg [.int .i64 c1, .int .i64 c2], .agg [.int .i64 d1, .int .i64 d2]] [] 0) (endK GE'.E.T Try.f26.results.toList fun _ v => R v) = (
  ((!Decidable.decide (Go.Proofs.Try.Sx.GCov a1 a2 b1 b2 c1 c2 d1 d2)) = Bool.true →
      Go.Proofs.Try.Sx.sm8 a1 a2 b1 b2 c1 c2 d1 d2 ∧
        Go.Proofs.Try.Sx.sm8 a1 a2 b1 b2 c1 c2 d1 d2 ∧
          (!Decidable.decide (Go.Proofs.Try.Sx.GCov a1 a2 b1 b2 c1 c2 d1 d2)) = Bool.true ∧
            Go.Proofs.Try.Sx.sm8 c1 c2 d1 d2 a1 a2 b1 b2 ∧
              Bool.true = Bool.true ∧
                R
                  (Go.Sx.SV.tup
                    [Go.Sx.SV.bool (Decidable.decide (Go.Proofs.Try.Sx.GMeet a1 a2 b1 b2 c1 c2 d1 d2)),
                      Go.Sx.SV.bool !Decidable.decide (Go.Proofs.Try.Sx.GCov c1 c2 d1 d2 a1 a2 b1 b2)])) ∧
    ((!Decidable.decide (Go.Proofs.Try.Sx.GCov a1 a2 b1 b2 c1 c2 d1 d2)) = Bool.false →
      Go.Proofs.Try.Sx.sm8 a1 a2 b1 b2 c1 c2 d1 d2 ∧
        Go.Proofs.Try.Sx.sm8 a1 a2 b1 b2 c1 c2 d1 d2 ∧
          (!Decidable.decide (Go.Proofs.Try.Sx.GCov a1 a2 b1 b2 c1 c2 d1 d2)) = Bool.false ∧
            Bool.true = Bool.true ∧
              R
                (Go.Sx.SV.tup
                  [Go.Sx.SV.bool (Decidable.decide (Go.Proofs.Try.Sx.GMeet a1 a2 b1 b2 c1 c2 d1 d2)), Go.Sx.SV.ff]))) := by kernel_rfl
theorem gPlain : PureOk Try.prog 26 gPlainF := by
  refine pure_of_vc gE' Try.func26 rfl (by kernel_rfl) ?_
  intro args v p h hp
  unfold gPlainF at h
  split at h
  · rename_i a1 a2 b1 b2 c1 c2 d1 d2
    injection h with h; injection h with h1 h2; subst h1; subst h2
    have hp : sm8 a1 a2 b1 b2 c1 c2 d1 d2 := hp
    refine ⟨rfl, _, _, (vc_gPlain _ a1 a2 b1 b2 c1 c2 d1 d2).mpr ?_⟩
    have m1 : sm8 c1 c2 d1 d2 a1 a2 b1 b2 := ⟨hp.2, hp.1⟩
    simp only [eqv, eqvL, m1, hp, true_and]
    grind
  · cases h

/-- The least, the greatest of the first i numbers of a kind (and of the first one). -/
def mn (g : Nat → Int) (k : Nat) : Nat → Int
  | 0 => g k
  | i + 1 => imin (mn g k i) (g (2 * i + k))
def mx (g : Nat → Int) (k : Nat) : Nat → Int
  | 0 => g k
  | i + 1 => imax (mx g k i) (g (2 * i + k))
def gRectL (len m : Nat) (g : Nat → Int) : Fam := ⟨Nat, fun i =>
  ⟨57, [(2, .ptr 1 0), (3, .ptr 2 0), (17, .slcc 0 len), (18, .int .i64 len), (19, .int .i64 i)], [(0, ⟨false, 31, .ints .i64 m g, 0⟩), (1, ⟨true, 34, .cells [.int .i64 0, .int .i64 0, .int .i64 0, .int .i64 0], 0⟩), (2, ⟨true, 34, .cells [.int .i64 (mn g 0 i), .int .i64 (mn g 1 i), .int .i64 (mx g 0 i), .int .i64 (mx g 1 i)], 0⟩)], 3⟩, fun i => i ≤ len, fun i => len - i⟩
noncomputable def gRectC : List SV → RdM
  | [.slcc n len] => .read n fun o0 => (match intsFrom .i64 o0.c with
    | some (m0, g) => .ret ⟨[.slcc 0 len], [(0, ⟨false, 31, .ints .i64 m0 g, 0⟩)], .agg [.int .i64 (mn g 0 len), .int .i64 (mn g 1 len), .int .i64 (mx g 0 len), .int .i64 (mx g 1 len)], [], [], some (1 ≤ len ∧ 2 * len ≤ m0 ∧ len ≤ 1000000)⟩
    | none => .fail)
  | _ => .fail
theorem vc_gRect (len : Nat) (m0 : Nat) (g : Nat → Int) : runA G0 1 [(5, gRectL len m0 g)] [] (codeOf Try.f25) (init Try.f25.ntmps [.slcc 0 len] [(0, ⟨false, 31, .ints .i64 (m0) g, 0⟩)] 1) (endK G0.E.T Try.f25.results.toList fun S v => postP 1 ⟨[.slcc 0 len], [(0, ⟨false, 31, .ints .i64 (m0) g, 0⟩)], .agg [.int .i64 (mn g 0 len), .int .i64 (mn g 1 len), .int .i64 (mx g 0 len), .int .i64 (mx g 1 len)], [], [], some (1 ≤ len ∧ 2 * len ≤ m0 ∧ len ≤ 1000000)⟩ S v) = (
  (((↑len : Int) == (0 : Int)) = Bool.true →
      ((0 : Int) = Go.Proofs.Try.Sx.mn g (0 : Nat) len ∧
          (0 : Int) = Go.Proofs.Try.Sx.mn g (1 : Nat) len ∧
            (0 : Int) = Go.Proofs.Try.Sx.mx g (0 : Nat) len ∧ (0 : Int) = Go.Proofs.Try.Sx.mx g (1 : Nat) len ∧ True) ∧
        True) ∧
    (((↑len : Int) == (0 : Int)) = Bool.false →
      (((0 : Int) ≤ (0 : Int) ∧ (0 : Int) < (↑len : Int)) ∧ (1 : Nat) ≤ m0) ∧
        (2 : Nat) ≤ m0 ∧
          (((0 : Int) ≤ (0 : Int) ∧ (0 : Int) < (↑len : Int)) ∧ (1 : Nat) ≤ m0) ∧
            (2 : Nat) ≤ m0 ∧
              Bool.true = Bool.true ∧
                (∃ (i : Nat),
                    i ≤ len ∧
                      ((True ∧ (0 : Nat) = (0 : Nat)) ∧
                          (True ∧ (0 : Nat) = (0 : Nat)) ∧
                            (True ∧ len = len) ∧ (↑len : Int) = (↑len : Int) ∧ (0 : Int) = (↑i : Int) ∧ True) ∧
                        True ∧
                          (m0 ≤ m0 ∧ ∀ (i : Nat), i < m0 → g i = g i) ∧
                            True ∧
                              ((34 : Nat) = (34 : Nat) ∧
                                  (0 : Nat) = (0 : Nat) ∧
                                    (0 : Int) = (0 : Int) ∧
                                      (0 : Int) = (0 : Int) ∧ (0 : Int) = (0 : Int) ∧ (0 : Int) = (0 : Int) ∧ True) ∧
                                True ∧
                                  ((34 : Nat) = (34 : Nat) ∧
                                      (0 : Nat) = (0 : Nat) ∧
                                        g (0 : Nat) = Go.Proofs.Try.Sx.mn g (0 : Nat) i ∧
                                          g (1 : Nat) = Go.Proofs.Try.Sx.mn g (1 : Nat) i ∧
                                            g (0 : Nat) = Go.Proofs.Try.Sx.mx g (0 : Nat) i ∧
                                              g (1 : Nat) = Go.Proofs.Try.Sx.mx g (1 : Nat) i ∧ True) ∧
                                    True) ∧
                  ∀ (i : Nat),
                    i ≤ len →
                      (Decidable.decide ((↑i : Int) < (↑len : Int)) = Bool.true →
                          (((0 : Int) ≤ (↑i : Int) ∧ (↑i : Int) < (↑len : Int)) ∧ (1 : Nat) ≤ m0) ∧
                            (0 : Nat) + Int.toNat (↑i : Int) * (2 : Nat) + (2 : Nat) ≤ m0 ∧
                              (((0 : Int) ≤ (0 : Int) ∧ (0 : Int) < (2 : Int)) ∧ True) ∧
                                (((0 : Int) ≤ (0 : Int) ∧ (0 : Int) < (2 : Int)) ∧ True) ∧
                                  (((0 : Int) ≤ (0 : Int) ∧ (0 : Int) < (2 : Int)) ∧ True) ∧
                                    (((0 : Int) ≤ (0 : Int) ∧ (0 : Int) < (2 : Int)) ∧ True) ∧
                                      Bool.true = Bool.true ∧
                                        (((0 : Int) ≤ (1 : Int) ∧ (1 : Int) < (2 : Int)) ∧ True) ∧
                                          (((0 : Int) ≤ (1 : Int) ∧ (1 : Int) < (2 : Int)) ∧ True) ∧
                                            (((0 : Int) ≤ (1 : Int) ∧ (1 : Int) < (2 : Int)) ∧ True) ∧
                                              (((0 : Int) ≤ (1 : Int) ∧ (1 : Int) < (2 : Int)) ∧ True) ∧
                                                Bool.true = Bool.true ∧
                                                  ∃ (i' : Nat),
                                                    i' ≤ len ∧
                                                      len - i' < len - i ∧
                                                        ((True ∧ (0 : Nat) = (0 : Nat)) ∧
                                                            (True ∧ (0 : Nat) = (0 : Nat)) ∧
                                                              (True ∧ len = len) ∧
                                                                (↑len : Int) = (↑len : Int) ∧
                                                                  Go.IntKind.wrap Go.IntKind.i64
                                                                        ((↑i : Int) + (1 : Int)) =
                                                                      (↑i' : Int) ∧
                                                                    True) ∧
                                                          True ∧
                                                            (m0 ≤ m0 ∧ ∀ (i : Nat), i < m0 → g i = g i) ∧
                                                              True ∧
                                                                ((34 : Nat) = (34 : Nat) ∧
                                                                    (0 : Nat) = (0 : Nat) ∧
                                                                      (0 : Int) = (0 : Int) ∧
                                                                        (0 : Int) = (0 : Int) ∧
                                                                          (0 : Int) = (0 : Int) ∧
                                                                            (0 : Int) = (0 : Int) ∧ True) ∧
                                                                  True ∧
                                                                    ((34 : Nat) = (34 : Nat) ∧
                                                                        (0 : Nat) = (0 : Nat) ∧
                                                                          Go.Sx.imin (Go.Proofs.Try.Sx.mn g (0 : Nat) i)
                                                                                (g
                                                                                  ((0 : Nat) +
                                                                                    Int.toNat (↑i : Int) * (2 : Nat))) =
                                                                              Go.Proofs.Try.Sx.mn g (0 : Nat) i' ∧
                                                                            Go.Sx.imin (Go.Proofs.Try.Sx.mn g (1 : Nat) i)
                                                                                  (g
                                                                                    ((0 : Nat) +
                                                                                        Int.toNat (↑i : Int) * (2 : Nat) +
                                                                                      (1 : Nat))) =
                                                                                Go.Proofs.Try.Sx.mn g (1 : Nat) i' ∧
                                                                              Go.Sx.imax
                                                                                    (Go.Proofs.Try.Sx.mx g (0 : Nat) i)
                                                                                    (g
                                                                                      ((0 : Nat) +
                                                                                        Int.toNat (↑i : Int) *
                                                                                          (2 : Nat))) =
                                                                                  Go.Proofs.Try.Sx.mx g (0 : Nat) i' ∧
                                                                                Go.Sx.imax
                                                                                      (Go.Proofs.Try.Sx.mx g (1 : Nat) i)
                                                                                      (g
                                                                                        ((0 : Nat) +
                                                                                            Int.toNat (↑i : Int) *
                                                                                              (2 : Nat) +
                                                                                          (1 : Nat))) =
                                                                                    Go.Proofs.Try.Sx.mx g (1 : Nat) i' ∧
                                                                                  True) ∧
                                                                      True) ∧
                        (Decidable.decide ((↑i : Int) < (↑len : Int)) = Bool.false →
                          (Go.Proofs.Try.Sx.mn g (0 : Nat) i = Go.Proofs.Try.Sx.mn g (0 : Nat) len ∧
                              Go.Proofs.Try.Sx.mn g (1 : Nat) i = Go.Proofs.Try.Sx.mn g (1 : Nat) len ∧
                                Go.Proofs.Try.Sx.mx g (0 : Nat) i = Go.Proofs.Try.Sx.mx g (0 : Nat) len ∧
                                  Go.Proofs.Try.Sx.mx g (1 : Nat) i = Go.Proofs.Try.Sx.mx g (1 : Nat) len ∧ True) ∧
                            True))) := by kernel_rfl
theorem gRect : ConOk Try.prog 25 (conR gRectC) := by
  refine con_of_vc g0 Try.func25 rfl (by kernel_rfl) fun args => ?_
  unfold gRectC
  split
  · rename_i n len
    intro o0
    show RdM.All _ (match intsFrom .i64 o0.c with | some (m, g) => _ | none => _) _
    split
    · rename_i m0 g hm0
      intro ho
      replace ho : 1 ≤ len ∧ 2 * len ≤ m0 ∧ len ≤ 1000000 := ho
      refine ⟨?_, _, _, (vc_gRect len m0 g).mpr ?_⟩
      · refine okFlag_mk rfl ⟨?_, ⟨trivial, (contR_ints hm0).1, trivial⟩⟩
        simp [eqvRL, eqvR, kEq_self, fkEq_self, sgSig, fsts, nth, sameN_self]
      · refine ⟨fun h => ?_, fun _ => ⟨by omega, by omega, by omega, by omega, rfl, ⟨0, by simp [mn, mx]⟩, fun i hi => ⟨fun h => ?_, fun h => ?_⟩⟩⟩
        · simp at h; omega
        · have h := of_decide_eq_true h
          have e : 0 + (i : Int).toNat * 2 = 2 * i := by omega
          have hw : IntKind.i64.wrap ((i : Int) + 1) = ((i + 1 : Nat) : Int) := by rw [wrap64 (by omega) (by omega)]; omega
          rw [e, hw]
          refine ⟨by omega, by omega, by simp, by simp, by simp, by simp, rfl, by simp, by simp, by simp, by simp, rfl, i + 1, by omega, by omega, by simp [mn, mx]⟩
        · have h := of_decide_eq_false h
          have : i = len := by omega
          subst this
          simp
    · trivial
  · trivial
end Go.Proofs.Try.Sx
