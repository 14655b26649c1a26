/- Rectangles: the small functions. -/
import Derived.Test.YtcjhgngdhdcpeaaGeo2
import Derived.Test.YtcjhgngdhdcpeaaFl9
import Derived.Test.YtcjhgngdhdcpeaaSx26
import Derived.Test.YtcjhgngdhdcpeaaSx27
import Derived.KernelRfl
namespace Go.Proofs.Try.Sx
open Go Go.Sx Go.Proofs Go.Fl Go.Geo
set_option maxRecDepth 100000

/-! ### of whole numbers -/
def geoRectF : PF := fun
  | [.agg [.int .i64 a, .int .i64 b, .int .i64 c, .int .i64 d]] => some (.agg [.int .i64 a, .int .i64 b, .int .i64 c, .int .i64 d], none)
  | _ => none
theorem vc_geoRect (R : SV → Prop) (a b c d : Int) : runA G0 0 [] [] (codeOf Try.f12) (init Try.f12.ntmps [.agg [.int .i64 a, .int .i64 b, .int .i64 c, .int .i64 d]] [] 0) (endK G0.E.T Try.f12.results.toList fun _ v => R v) = (
  (((0 : Int) ≤ (0 : Int) ∧ (0 : Int) < (2 : Int)) ∧ True) ∧
    (((0 : Int) ≤ (1 : Int) ∧ (1 : Int) < (2 : Int)) ∧ True) ∧
      R
        (Go.Sx.SV.agg
          [Go.Sx.SV.int Go.IntKind.i64 a, Go.Sx.SV.int Go.IntKind.i64 b, Go.Sx.SV.int Go.IntKind.i64 c,
            Go.Sx.SV.int Go.IntKind.i64 d])) := by kernel_rfl
theorem geoRect : PureOk Try.prog 12 geoRectF := by
  refine pure_of_vc g0 Try.func12 rfl (by kernel_rfl) ?_
  intro args v p h hp
  unfold geoRectF at h
  split at h
  · rename_i a b c d
    injection h with h; injection h with h1 h2; subst h1; subst h2
    clear hp
    refine ⟨rfl, _, _, (vc_geoRect _ a b c d).mpr ?_⟩
    simp [eqv, eqvL, kEq_self, fkEq_self]
  · cases h

def isRectF : PF := fun
  | [.agg [.int .i64 a, .int .i64 b, .int .i64 c, .int .i64 d]] => some (.bool (decide (a ≤ c ∧ b ≤ d)), none)
  | _ => none
theorem vc_isRect (R : SV → Prop) (a b c d : Int) : runA G0 0 [] [] (codeOf Try.f13) (init Try.f13.ntmps [.agg [.int .i64 a, .int .i64 b, .int .i64 c, .int .i64 d]] [] 0) (endK G0.E.T Try.f13.results.toList fun _ v => R v) = (
  (((0 : Int) ≤ (0 : Int) ∧ (0 : Int) < (2 : Int)) ∧ True) ∧
    (((0 : Int) ≤ (1 : Int) ∧ (1 : Int) < (2 : Int)) ∧ True) ∧
      (Decidable.decide (a ≤ c) = Bool.true →
          (((0 : Int) ≤ (0 : Int) ∧ (0 : Int) < (2 : Int)) ∧ True) ∧
            (((0 : Int) ≤ (1 : Int) ∧ (1 : Int) < (2 : Int)) ∧ True) ∧ R (Go.Sx.SV.bool (Decidable.decide (b ≤ d)))) ∧
        (Decidable.decide (a ≤ c) = Bool.false → R Go.Sx.SV.ff)) := by kernel_rfl
theorem isRect : PureOk Try.prog 13 isRectF := by
  refine pure_of_vc g0 Try.func13 rfl (by kernel_rfl) ?_
  intro args v p h hp
  unfold isRectF at h
  split at h
  · rename_i a b c d
    injection h with h; injection h with h1 h2; subst h1; subst h2
    clear hp
    refine ⟨rfl, _, _, (vc_isRect _ a b c d).mpr ?_⟩
    simp only [eqv]
    grind
  · cases h

def inRectF : PF := fun
  | [.agg [.int .i64 a, .int .i64 b, .int .i64 c, .int .i64 d], .agg [.int .i64 x, .int .i64 y]] => some (.bool (decide (btw a c x ∧ btw b d y)), none)
  | _ => none
theorem vc_inRect (R : SV → Prop) (a b c d x y : Int) : runA GQ 0 [] [] (codeOf Try.f15) (init Try.f15.ntmps [.agg [.int .i64 a, .int .i64 b, .int .i64 c, .int .i64 d], .agg [.int .i64 x, .int .i64 y]] [] 0) (endK GQ.E.T Try.f15.results.toList fun _ v => R v) = (
  (((0 : Int) ≤ (0 : Int) ∧ (0 : Int) < (2 : Int)) ∧ True) ∧
    (((0 : Int) ≤ (1 : Int) ∧ (1 : Int) < (2 : Int)) ∧ True) ∧
      R (Go.Sx.SV.bool (Decidable.decide (Go.Geo.btw a c x ∧ Go.Geo.btw b d y)))) := by kernel_rfl
theorem inRect : PureOk Try.prog 15 inRectF := by
  refine pure_of_vc gQ Try.func15 rfl (by kernel_rfl) ?_
  intro args v p h hp
  unfold inRectF at h
  split at h
  · rename_i a b c d x y
    injection h with h; injection h with h1 h2; subst h1; subst h2
    clear hp
    refine ⟨rfl, _, _, (vc_inRect _ a b c d x y).mpr ?_⟩
    simp [eqv]
  · cases h

def rectInF : PF := fun
  | [.agg [.int .i64 a, .int .i64 b, .int .i64 c, .int .i64 d], .agg [.int .i64 p, .int .i64 q, .int .i64 r, .int .i64 s]] => some (.bool (decide ((btw a c p ∧ btw b d q) ∧ (btw a c r ∧ btw b d s))), none)
  | _ => none
theorem vc_rectIn (R : SV → Prop) (a b c d p q r s : Int) : runA GQ 0 [] [] (codeOf Try.f16) (init Try.f16.ntmps [.agg [.int .i64 a, .int .i64 b, .int .i64 c, .int .i64 d], .agg [.int .i64 p, .int .i64 q, .int .i64 r, .int .i64 s]] [] 0) (endK GQ.E.T Try.f16.results.toList fun _ v => R v) = (
  (((0 : Int) ≤ (0 : Int) ∧ (0 : Int) < (2 : Int)) ∧ True) ∧
    (((0 : Int) ≤ (1 : Int) ∧ (1 : Int) < (2 : Int)) ∧ True) ∧
      (((0 : Int) ≤ (0 : Int) ∧ (0 : Int) < (2 : Int)) ∧ True) ∧
        (Decidable.decide (Go.Geo.btw a c p ∧ Go.Geo.btw b d q) = Bool.true →
            (((0 : Int) ≤ (0 : Int) ∧ (0 : Int) < (2 : Int)) ∧ True) ∧
              (((0 : Int) ≤ (1 : Int) ∧ (1 : Int) < (2 : Int)) ∧ True) ∧
                (((0 : Int) ≤ (1 : Int) ∧ (1 : Int) < (2 : Int)) ∧ True) ∧
                  R (Go.Sx.SV.bool (Decidable.decide (Go.Geo.btw a c r ∧ Go.Geo.btw b d s)))) ∧
          (Decidable.decide (Go.Geo.btw a c p ∧ Go.Geo.btw b d q) = Bool.false → R Go.Sx.SV.ff)) := by kernel_rfl
theorem rectIn : PureOk Try.prog 16 rectInF := by
  refine pure_of_vc gQ Try.func16 rfl (by kernel_rfl) ?_
  intro args v p h hp
  unfold rectInF at h
  split at h
  · rename_i a b c d p q r s
    injection h with h; injection h with h1 h2; subst h1; subst h2
    clear hp
    refine ⟨rfl, _, _, (vc_rectIn _ a b c d p q r s).mpr ?_⟩
    simp only [eqv]
    grind
  · cases h

def rectsMeetF : PF := fun
  | [.agg [.int .i64 a, .int .i64 b, .int .i64 c, .int .i64 d], .agg [.int .i64 p, .int .i64 q, .int .i64 r, .int .i64 s]] => some (.bool (decide (a ≤ r ∧ p ≤ c ∧ b ≤ s ∧ q ≤ d)), none)
  | _ => none
theorem vc_rectsMeet (R : SV → Prop) (a b c d p q r s : Int) : runA GQ 0 [] [] (codeOf Try.f17) (init Try.f17.ntmps [.agg [.int .i64 a, .int .i64 b, .int .i64 c, .int .i64 d], .agg [.int .i64 p, .int .i64 q, .int .i64 r, .int .i64 s]] [] 0) (endK GQ.E.T Try.f17.results.toList fun _ v => R v) = (
  (((0 : Int) ≤ (0 : Int) ∧ (0 : Int) < (2 : Int)) ∧ True) ∧
    (((0 : Int) ≤ (1 : Int) ∧ (1 : Int) < (2 : Int)) ∧ True) ∧
      (Decidable.decide (a ≤ r) = Bool.true →
          (((0 : Int) ≤ (0 : Int) ∧ (0 : Int) < (2 : Int)) ∧ True) ∧
            (((0 : Int) ≤ (1 : Int) ∧ (1 : Int) < (2 : Int)) ∧ True) ∧
              (Decidable.decide (p ≤ c) = Bool.true →
                  (((0 : Int) ≤ (0 : Int) ∧ (0 : Int) < (2 : Int)) ∧ True) ∧
                    (((0 : Int) ≤ (1 : Int) ∧ (1 : Int) < (2 : Int)) ∧ True) ∧
                      (Decidable.decide (b ≤ s) = Bool.true →
                          (((0 : Int) ≤ (0 : Int) ∧ (0 : Int) < (2 : Int)) ∧ True) ∧
                            (((0 : Int) ≤ (1 : Int) ∧ (1 : Int) < (2 : Int)) ∧ True) ∧
                              R (Go.Sx.SV.bool (Decidable.decide (q ≤ d)))) ∧
                        (Decidable.decide (b ≤ s) = Bool.false → R Go.Sx.SV.ff)) ∧
                (Decidable.decide (p ≤ c) = Bool.false → R Go.Sx.SV.ff)) ∧
        (Decidable.decide (a ≤ r) = Bool.false → R Go.Sx.SV.ff)) := by kernel_rfl
theorem rectsMeet : PureOk Try.prog 17 rectsMeetF := by
  refine pure_of_vc gQ Try.func17 rfl (by kernel_rfl) ?_
  intro args v p h hp
  unfold rectsMeetF at h
  split at h
  · rename_i a b c d p q r s
    injection h with h; injection h with h1 h2; subst h1; subst h2
    clear hp
    refine ⟨rfl, _, _, (vc_rectsMeet _ a b c d p q r s).mpr ?_⟩
    simp only [eqv]
    grind
  · cases h


/-! ### of floats -/
def GP : Ctx := ⟨⟨tys, []⟩, [(28, pureCon ptF)]⟩
theorem gP : CtxOk Try.prog GP := ⟨⟨tysOk, FlatsOk.nil⟩, GamOk.cons (.pure pt) GamOk.nil, by kernel_rfl⟩

def mkRectF : PF := fun
  | [.agg [.int .i64 a, .int .i64 b, .int .i64 c, .int .i64 d]] => some (.agg [.flt .f64 (ofI .f64 a), .flt .f64 (ofI .f64 b), .flt .f64 (ofI .f64 c), .flt .f64 (ofI .f64 d)], none)
  | _ => none
theorem vc_mkRect (R : SV → Prop) (a b c d : Int) : runA GP 0 [] [] (codeOf Try.f32) (init Try.f32.ntmps [.agg [.int .i64 a, .int .i64 b, .int .i64 c, .int .i64 d]] [] 0) (endK GP.E.T Try.f32.results.toList fun _ v => R v) = (
  (((0 : Int) ≤ (0 : Int) ∧ (0 : Int) < (2 : Int)) ∧ True) ∧
    (((0 : Int) ≤ (1 : Int) ∧ (1 : Int) < (2 : Int)) ∧ True) ∧
      Bool.true = Bool.true ∧
        R
          (Go.Sx.SV.agg
            [Go.Sx.SV.flt Go.FloatKind.f64 (Go.Sx.ofI Go.FloatKind.f64 a),
              Go.Sx.SV.flt Go.FloatKind.f64 (Go.Sx.ofI Go.FloatKind.f64 b),
              Go.Sx.SV.flt Go.FloatKind.f64 (Go.Sx.ofI Go.FloatKind.f64 c),
              Go.Sx.SV.flt Go.FloatKind.f64 (Go.Sx.ofI Go.FloatKind.f64 d)])) := by kernel_rfl
theorem mkRect : PureOk Try.prog 32 mkRectF := by
  refine pure_of_vc gP Try.func32 rfl (by kernel_rfl) ?_
  intro args v p h hp
  unfold mkRectF at h
  split at h
  · rename_i a b c d
    injection h with h; injection h with h1 h2; subst h1; subst h2
    clear hp
    refine ⟨rfl, _, _, (vc_mkRect _ a b c d).mpr ?_⟩
    simp [eqv, eqvL, kEq_self, fkEq_self]
  · cases h

def rHasF : PF := fun
  | [.agg [.flt .f64 a, .flt .f64 b, .flt .f64 c, .flt .f64 d], .agg [.flt .f64 x, .flt .f64 y]] => some (.bool (fGe .f64 x a && fLe .f64 x c && fGe .f64 y b && fLe .f64 y d), none)
  | _ => none
theorem vc_rHas (R : SV → Prop) (a b c d x y : Nat) : runA G0 0 [] [] (codeOf Try.f33) (init Try.f33.ntmps [.agg [.flt .f64 a, .flt .f64 b, .flt .f64 c, .flt .f64 d], .agg [.flt .f64 x, .flt .f64 y]] [] 0) (endK G0.E.T Try.f33.results.toList fun _ v => R v) = (
  (Go.Sx.fGe Go.FloatKind.f64 x a = Bool.true →
      (Go.Sx.fLe Go.FloatKind.f64 x c = Bool.true →
          (Go.Sx.fGe Go.FloatKind.f64 y b = Bool.true → R (Go.Sx.SV.bool (Go.Sx.fLe Go.FloatKind.f64 y d))) ∧
            (Go.Sx.fGe Go.FloatKind.f64 y b = Bool.false → R Go.Sx.SV.ff)) ∧
        (Go.Sx.fLe Go.FloatKind.f64 x c = Bool.false → R Go.Sx.SV.ff)) ∧
    (Go.Sx.fGe Go.FloatKind.f64 x a = Bool.false → R Go.Sx.SV.ff)) := by kernel_rfl
theorem rHas : PureOk Try.prog 33 rHasF := by
  refine pure_of_vc g0 Try.func33 rfl (by kernel_rfl) ?_
  intro args v p h hp
  unfold rHasF at h
  split at h
  · rename_i a b c d x y
    injection h with h; injection h with h1 h2; subst h1; subst h2
    clear hp
    refine ⟨rfl, _, _, (vc_rHas _ a b c d x y).mpr ?_⟩
    simp only [eqv]
    grind
  · cases h

def GP2 : Ctx := ⟨⟨tys, []⟩, [(33, pureCon rHasF)]⟩
theorem gP2 : CtxOk Try.prog GP2 := ⟨⟨tysOk, FlatsOk.nil⟩, GamOk.cons (.pure rHas) GamOk.nil, by kernel_rfl⟩
def rMeetPF : PF := fun
  | [.agg [.flt .f64 a, .flt .f64 b, .flt .f64 c, .flt .f64 d], .agg [.flt .f64 x, .flt .f64 y]] => some (.bool (fGe .f64 x a && fLe .f64 x c && fGe .f64 y b && fLe .f64 y d), none)
  | _ => none
theorem vc_rMeetP (R : SV → Prop) (a b c d x y : Nat) : runA GP2 0 [] [] (codeOf Try.f34) (init Try.f34.ntmps [.agg [.flt .f64 a, .flt .f64 b, .flt .f64 c, .flt .f64 d], .agg [.flt .f64 x, .flt .f64 y]] [] 0) (endK GP2.E.T Try.f34.results.toList fun _ v => R v) = (
  R
    (Go.Sx.SV.bool
      (Go.Sx.fGe Go.FloatKind.f64 x a && Go.Sx.fLe Go.FloatKind.f64 x c && Go.Sx.fGe Go.FloatKind.f64 y b &&
        Go.Sx.fLe Go.FloatKind.f64 y d))) := by kernel_rfl
theorem rMeetP : PureOk Try.prog 34 rMeetPF := by
  refine pure_of_vc gP2 Try.func34 rfl (by kernel_rfl) ?_
  intro args v p h hp
  unfold rMeetPF at h
  split at h
  · rename_i a b c d x y
    injection h with h; injection h with h1 h2; subst h1; subst h2
    clear hp
    refine ⟨rfl, _, _, (vc_rMeetP _ a b c d x y).mpr ?_⟩
    simp [eqv]
  · cases h

def rInF : PF := fun
  | [.agg [.flt .f64 a, .flt .f64 b, .flt .f64 c, .flt .f64 d], .agg [.flt .f64 p, .flt .f64 q, .flt .f64 r, .flt .f64 s]] => some (.bool (!(fLt .f64 p a) && !(fGt .f64 r c) && !(fLt .f64 q b) && !(fGt .f64 s d)), none)
  | _ => none
theorem vc_rIn (R : SV → Prop) (a b c d p q r s : Nat) : runA G0 0 [] [] (codeOf Try.f35) (init Try.f35.ntmps [.agg [.flt .f64 a, .flt .f64 b, .flt .f64 c, .flt .f64 d], .agg [.flt .f64 p, .flt .f64 q, .flt .f64 r, .flt .f64 s]] [] 0) (endK G0.E.T Try.f35.results.toList fun _ v => R v) = (
  (Go.Sx.fLt Go.FloatKind.f64 p a = Bool.true → R Go.Sx.SV.ff) ∧
    (Go.Sx.fLt Go.FloatKind.f64 p a = Bool.false →
      (Go.Sx.fGt Go.FloatKind.f64 r c = Bool.true → R Go.Sx.SV.ff) ∧
        (Go.Sx.fGt Go.FloatKind.f64 r c = Bool.false →
          (Go.Sx.fLt Go.FloatKind.f64 q b = Bool.true → R Go.Sx.SV.ff) ∧
            (Go.Sx.fLt Go.FloatKind.f64 q b = Bool.false →
              (Go.Sx.fGt Go.FloatKind.f64 s d = Bool.true → R Go.Sx.SV.ff) ∧
                (Go.Sx.fGt Go.FloatKind.f64 s d = Bool.false → R Go.Sx.SV.tt))))) := by kernel_rfl
theorem rIn : PureOk Try.prog 35 rInF := by
  refine pure_of_vc g0 Try.func35 rfl (by kernel_rfl) ?_
  intro args v p h hp
  unfold rInF at h
  split at h
  · rename_i a b c d p q r s
    injection h with h; injection h with h1 h2; subst h1; subst h2
    clear hp
    refine ⟨rfl, _, _, (vc_rIn _ a b c d p q r s).mpr ?_⟩
    simp only [eqv]
    grind
  · cases h

def rMeetF : PF := fun
  | [.agg [.flt .f64 a, .flt .f64 b, .flt .f64 c, .flt .f64 d], .agg [.flt .f64 p, .flt .f64 q, .flt .f64 r, .flt .f64 s]] => some (.bool (!(fGt .f64 b s) && !(fLt .f64 d q) && !(fGt .f64 a r) && !(fLt .f64 c p)), none)
  | _ => none
theorem vc_rMeet (R : SV → Prop) (a b c d p q r s : Nat) : runA G0 0 [] [] (codeOf Try.f36) (init Try.f36.ntmps [.agg [.flt .f64 a, .flt .f64 b, .flt .f64 c, .flt .f64 d], .agg [.flt .f64 p, .flt .f64 q, .flt .f64 r, .flt .f64 s]] [] 0) (endK G0.E.T Try.f36.results.toList fun _ v => R v) = (
  (Go.Sx.fGt Go.FloatKind.f64 b s = Bool.true → R Go.Sx.SV.ff) ∧
    (Go.Sx.fGt Go.FloatKind.f64 b s = Bool.false →
      (Go.Sx.fLt Go.FloatKind.f64 d q = Bool.true → R Go.Sx.SV.ff) ∧
        (Go.Sx.fLt Go.FloatKind.f64 d q = Bool.false →
          (Go.Sx.fGt Go.FloatKind.f64 a r = Bool.true → R Go.Sx.SV.ff) ∧
            (Go.Sx.fGt Go.FloatKind.f64 a r = Bool.false →
              (Go.Sx.fLt Go.FloatKind.f64 c p = Bool.true → R Go.Sx.SV.ff) ∧
                (Go.Sx.fLt Go.FloatKind.f64 c p = Bool.false → R Go.Sx.SV.tt))))) := by kernel_rfl
theorem rMeet : PureOk Try.prog 36 rMeetF := by
  refine pure_of_vc g0 Try.func36 rfl (by kernel_rfl) ?_
  intro args v p h hp
  unfold rMeetF at h
  split at h
  · rename_i a b c d p q r s
    injection h with h; injection h with h1 h2; subst h1; subst h2
    clear hp
    refine ⟨rfl, _, _, (vc_rMeet _ a b c d p q r s).mpr ?_⟩
    simp only [eqv]
    grind
  · cases h

def rEmptyF : PF := fun
  | [.agg [.flt .f64 a, .flt .f64 b, .flt .f64 c, .flt .f64 d]] => some (.ff, none)
  | _ => none
theorem vc_rEmpty (R : SV → Prop) (a b c d : Nat) : runA G0 0 [] [] (codeOf Try.f37) (init Try.f37.ntmps [.agg [.flt .f64 a, .flt .f64 b, .flt .f64 c, .flt .f64 d]] [] 0) (endK G0.E.T Try.f37.results.toList fun _ v => R v) = (
  R Go.Sx.SV.ff) := by kernel_rfl
theorem rEmpty : PureOk Try.prog 37 rEmptyF := by
  refine pure_of_vc g0 Try.func37 rfl (by kernel_rfl) ?_
  intro args v p h hp
  unfold rEmptyF at h
  split at h
  · rename_i a b c d
    injection h with h; injection h with h1 h2; subst h1; subst h2
    clear hp
    refine ⟨rfl, _, _, (vc_rEmpty _ a b c d).mpr ?_⟩
    simp [eqv, eqvL, kEq_self, fkEq_self]
  · cases h
def rConvexF : PF := fun
  | [.agg [.flt .f64 a, .flt .f64 b, .flt .f64 c, .flt .f64 d]] => some (.tt, none)
  | _ => none
theorem vc_rConvex (R : SV → Prop) (a b c d : Nat) : runA G0 0 [] [] (codeOf Try.f39) (init Try.f39.ntmps [.agg [.flt .f64 a, .flt .f64 b, .flt .f64 c, .flt .f64 d]] [] 0) (endK G0.E.T Try.f39.results.toList fun _ v => R v) = (
  R Go.Sx.SV.tt) := by kernel_rfl
theorem rConvex : PureOk Try.prog 39 rConvexF := by
  refine pure_of_vc g0 Try.func39 rfl (by kernel_rfl) ?_
  intro args v p h hp
  unfold rConvexF at h
  split at h
  · rename_i a b c d
    injection h with h; injection h with h1 h2; subst h1; subst h2
    clear hp
    refine ⟨rfl, _, _, (vc_rConvex _ a b c d).mpr ?_⟩
    simp [eqv, eqvL, kEq_self, fkEq_self]
  · cases h
def rClockF : PF := fun
  | [.agg [.flt .f64 a, .flt .f64 b, .flt .f64 c, .flt .f64 d]] => some (.ff, none)
  | _ => none
theorem vc_rClock (R : SV → Prop) (a b c d : Nat) : runA G0 0 [] [] (codeOf Try.f40) (init Try.f40.ntmps [.agg [.flt .f64 a, .flt .f64 b, .flt .f64 c, .flt .f64 d]] [] 0) (endK G0.E.T Try.f40.results.toList fun _ v => R v) = (
  R Go.Sx.SV.ff) := by kernel_rfl
theorem rClock : PureOk Try.prog 40 rClockF := by
  refine pure_of_vc g0 Try.func40 rfl (by kernel_rfl) ?_
  intro args v p h hp
  unfold rClockF at h
  split at h
  · rename_i a b c d
    injection h with h; injection h with h1 h2; subst h1; subst h2
    clear hp
    refine ⟨rfl, _, _, (vc_rClock _ a b c d).mpr ?_⟩
    simp [eqv, eqvL, kEq_self, fkEq_self]
  · cases h
def rNumPF : PF := fun
  | [.agg [.flt .f64 a, .flt .f64 b, .flt .f64 c, .flt .f64 d]] => some (.int .i64 5, none)
  | _ => none
theorem vc_rNumP (R : SV → Prop) (a b c d : Nat) : runA G0 0 [] [] (codeOf Try.f43) (init Try.f43.ntmps [.agg [.flt .f64 a, .flt .f64 b, .flt .f64 c, .flt .f64 d]] [] 0) (endK G0.E.T Try.f43.results.toList fun _ v => R v) = (
  R (Go.Sx.SV.int Go.IntKind.i64 (5 : Int))) := by kernel_rfl
theorem rNumP : PureOk Try.prog 43 rNumPF := by
  refine pure_of_vc g0 Try.func43 rfl (by kernel_rfl) ?_
  intro args v p h hp
  unfold rNumPF at h
  split at h
  · rename_i a b c d
    injection h with h; injection h with h1 h2; subst h1; subst h2
    clear hp
    refine ⟨rfl, _, _, (vc_rNumP _ a b c d).mpr ?_⟩
    simp [eqv, eqvL, kEq_self, fkEq_self]
  · cases h
def rNumSF : PF := fun
  | [.agg [.flt .f64 a, .flt .f64 b, .flt .f64 c, .flt .f64 d]] => some (.int .i64 4, none)
  | _ => none
theorem vc_rNumS (R : SV → Prop) (a b c d : Nat) : runA G0 0 [] [] (codeOf Try.f46) (init Try.f46.ntmps [.agg [.flt .f64 a, .flt .f64 b, .flt .f64 c, .flt .f64 d]] [] 0) (endK G0.E.T Try.f46.results.toList fun _ v => R v) = (
  R (Go.Sx.SV.int Go.IntKind.i64 (4 : Int))) := by kernel_rfl
theorem rNumS : PureOk Try.prog 46 rNumSF := by
  refine pure_of_vc g0 Try.func46 rfl (by kernel_rfl) ?_
  intro args v p h hp
  unfold rNumSF at h
  split at h
  · rename_i a b c d
    injection h with h; injection h with h1 h2; subst h1; subst h2
    clear hp
    refine ⟨rfl, _, _, (vc_rNumS _ a b c d).mpr ?_⟩
    simp [eqv, eqvL, kEq_self, fkEq_self]
  · cases h

def pvalid (x y : Nat) : Bool := fGe .f64 x 13863909240395005952 && fLe .f64 x 4640537203540230144 && fGe .f64 y 13859405640767635456 && fLe .f64 y 4636033603912859648
def pValidF : PF := fun
  | [.agg [.flt .f64 x, .flt .f64 y]] => some (.bool (pvalid x y), none)
  | _ => none
theorem vc_pValid (R : SV → Prop) (x y : Nat) : runA G0 0 [] [] (codeOf Try.f57) (init Try.f57.ntmps [.agg [.flt .f64 x, .flt .f64 y]] [] 0) (endK G0.E.T Try.f57.results.toList fun _ v => R v) = (
  (Go.Sx.fGe Go.FloatKind.f64 x (13863909240395005952 : Nat) = Bool.true →
      (Go.Sx.fLe Go.FloatKind.f64 x (4640537203540230144 : Nat) = Bool.true →
          (Go.Sx.fGe Go.FloatKind.f64 y (13859405640767635456 : Nat) = Bool.true →
              R (Go.Sx.SV.bool (Go.Sx.fLe Go.FloatKind.f64 y (4636033603912859648 : Nat)))) ∧
            (Go.Sx.fGe Go.FloatKind.f64 y (13859405640767635456 : Nat) = Bool.false → R Go.Sx.SV.ff)) ∧
        (Go.Sx.fLe Go.FloatKind.f64 x (4640537203540230144 : Nat) = Bool.false → R Go.Sx.SV.ff)) ∧
    (Go.Sx.fGe Go.FloatKind.f64 x (13863909240395005952 : Nat) = Bool.false → R Go.Sx.SV.ff)) := by kernel_rfl
theorem pValid : PureOk Try.prog 57 pValidF := by
  refine pure_of_vc g0 Try.func57 rfl (by kernel_rfl) ?_
  intro args v p h hp
  unfold pValidF at h
  split at h
  · rename_i x y
    injection h with h; injection h with h1 h2; subst h1; subst h2
    clear hp
    refine ⟨rfl, _, _, (vc_pValid _ x y).mpr ?_⟩
    simp only [eqv, pvalid]
    grind
  · cases h
def GP3 : Ctx := ⟨⟨tys, []⟩, [(57, pureCon pValidF)]⟩
theorem gP3 : CtxOk Try.prog GP3 := ⟨⟨tysOk, FlatsOk.nil⟩, GamOk.cons (.pure pValid) GamOk.nil, by kernel_rfl⟩
def rValidF : PF := fun
  | [.agg [.flt .f64 a, .flt .f64 b, .flt .f64 c, .flt .f64 d]] => some (.bool (pvalid a b && pvalid c d), none)
  | _ => none
theorem vc_rValid (R : SV → Prop) (a b c d : Nat) : runA GP3 0 [] [] (codeOf Try.f38) (init Try.f38.ntmps [.agg [.flt .f64 a, .flt .f64 b, .flt .f64 c, .flt .f64 d]] [] 0) (endK GP3.E.T Try.f38.results.toList fun _ v => R v) = (
  (Go.Proofs.Try.Sx.pvalid a b = Bool.true → R (Go.Sx.SV.bool (Go.Proofs.Try.Sx.pvalid c d))) ∧
    (Go.Proofs.Try.Sx.pvalid a b = Bool.false → R Go.Sx.SV.ff)) := by kernel_rfl
theorem rValid : PureOk Try.prog 38 rValidF := by
  refine pure_of_vc gP3 Try.func38 rfl (by kernel_rfl) ?_
  intro args v p h hp
  unfold rValidF at h
  split at h
  · rename_i a b c d
    injection h with h; injection h with h1 h2; subst h1; subst h2
    clear hp
    refine ⟨rfl, _, _, (vc_rValid _ a b c d).mpr ?_⟩
    simp only [eqv]
    grind
  · cases h

def rAreaF : PF := fun
  | [.agg [.flt .f64 a, .flt .f64 b, .flt .f64 c, .flt .f64 d]] => some (.flt .f64 (fop .mul .f64 (fop .sub .f64 c a) (fop .sub .f64 d b)), some (fok .sub .f64 c a ∧ fok .sub .f64 d b ∧ fok .mul .f64 (fop .sub .f64 c a) (fop .sub .f64 d b)))
  | _ => none
theorem vc_rArea (R : SV → Prop) (a b c d : Nat) : runA G0 0 [] [] (codeOf Try.f41) (init Try.f41.ntmps [.agg [.flt .f64 a, .flt .f64 b, .flt .f64 c, .flt .f64 d]] [] 0) (endK G0.E.T Try.f41.results.toList fun _ v => R v) = (
  Go.Sx.fok Go.BinOp.sub Go.FloatKind.f64 c a ∧
    Go.Sx.fok Go.BinOp.sub Go.FloatKind.f64 d b ∧
      Go.Sx.fok Go.BinOp.mul Go.FloatKind.f64 (Go.Sx.fop Go.BinOp.sub Go.FloatKind.f64 c a)
          (Go.Sx.fop Go.BinOp.sub Go.FloatKind.f64 d b) ∧
        R
          (Go.Sx.SV.flt Go.FloatKind.f64
            (Go.Sx.fop Go.BinOp.mul Go.FloatKind.f64 (Go.Sx.fop Go.BinOp.sub Go.FloatKind.f64 c a)
              (Go.Sx.fop Go.BinOp.sub Go.FloatKind.f64 d b)))) := by kernel_rfl
theorem rArea : PureOk Try.prog 41 rAreaF := by
  refine pure_of_vc g0 Try.func41 rfl (by kernel_rfl) ?_
  intro args v p h hp
  unfold rAreaF at h
  split at h
  · rename_i a b c d
    injection h with h; injection h with h1 h2; subst h1; subst h2
    have hp : fok .sub .f64 c a ∧ fok .sub .f64 d b ∧ fok .mul .f64 (fop .sub .f64 c a) (fop .sub .f64 d b) := hp
    refine ⟨rfl, _, _, (vc_rArea _ a b c d).mpr ?_⟩
    exact ⟨hp.1, hp.2.1, hp.2.2, rfl⟩
  · cases h

def fdiv (x y : Nat) : Nat := (floatBits .quo .f64 x y).getD 0
def fdok (x y : Nat) : Prop := (floatBits .quo .f64 x y).isSome = true
theorem quo_det {x y r : Nat} (h : QuoRel .f64 x y r) (hk : fdok x y) : r = fdiv x y := by
  unfold QuoRel at h
  unfold fdok at hk
  unfold fdiv
  cases hq : floatBits .quo .f64 x y with
  | none => rw [hq] at hk; cases hk
  | some v => rw [hq] at h; simpa using h

def rCenterF : PF := fun
  | [.agg [.flt .f64 a, .flt .f64 b, .flt .f64 c, .flt .f64 d]] => some (.agg [.flt .f64 (fdiv (fop .add .f64 c a) 4611686018427387904), .flt .f64 (fdiv (fop .add .f64 d b) 4611686018427387904)], some (fok .add .f64 c a ∧ fok .add .f64 d b ∧ fdok (fop .add .f64 c a) 4611686018427387904 ∧ fdok (fop .add .f64 d b) 4611686018427387904))
  | _ => none
theorem vc_rCenter (R : SV → Prop) (a b c d : Nat) : runA G0 0 [] [] (codeOf Try.f42) (init Try.f42.ntmps [.agg [.flt .f64 a, .flt .f64 b, .flt .f64 c, .flt .f64 d]] [] 0) (endK G0.E.T Try.f42.results.toList fun _ v => R v) = (
  Go.Sx.fok Go.BinOp.add Go.FloatKind.f64 c a ∧
    ∀ (r : Nat),
      Go.Sx.QuoRel Go.FloatKind.f64 (Go.Sx.fop Go.BinOp.add Go.FloatKind.f64 c a) (4611686018427387904 : Nat) r →
        Go.Sx.fok Go.BinOp.add Go.FloatKind.f64 d b ∧
          ∀ (r_1 : Nat),
            Go.Sx.QuoRel Go.FloatKind.f64 (Go.Sx.fop Go.BinOp.add Go.FloatKind.f64 d b) (4611686018427387904 : Nat) r_1 →
              R (Go.Sx.SV.agg [Go.Sx.SV.flt Go.FloatKind.f64 r, Go.Sx.SV.flt Go.FloatKind.f64 r_1])) := by kernel_rfl
theorem rCenter : PureOk Try.prog 42 rCenterF := by
  refine pure_of_vc g0 Try.func42 rfl (by kernel_rfl) ?_
  intro args v p h hp
  unfold rCenterF at h
  split at h
  · rename_i a b c d
    injection h with h; injection h with h1 h2; subst h1; subst h2
    have hp : fok .add .f64 c a ∧ fok .add .f64 d b ∧ fdok (fop .add .f64 c a) 4611686018427387904 ∧ fdok (fop .add .f64 d b) 4611686018427387904 := hp
    refine ⟨rfl, _, _, (vc_rCenter _ a b c d).mpr ?_⟩
    refine ⟨hp.1, fun r hr => ⟨hp.2.1, fun q hq => ?_⟩⟩
    rw [quo_det hr hp.2.2.1, quo_det hq hp.2.2.2]
    exact ⟨rfl, rfl, trivial⟩
  · cases h

def fromPF : PF := fun
  | [.agg [.flt .f64 x, .flt .f64 y]] => some (.agg [.int .i64 (toI .f64 x .i64), .int .i64 (toI .f64 y .i64)], some (toIok .f64 x .i64 ∧ toIok .f64 y .i64))
  | _ => none
theorem vc_fromP (R : SV → Prop) (x y : Nat) : runA G0 0 [] [] (codeOf Try.f44) (init Try.f44.ntmps [.agg [.flt .f64 x, .flt .f64 y]] [] 0) (endK G0.E.T Try.f44.results.toList fun _ v => R v) = (
  Go.Sx.toIok Go.FloatKind.f64 x Go.IntKind.i64 ∧
    Go.Sx.toIok Go.FloatKind.f64 y Go.IntKind.i64 ∧
      R
        (Go.Sx.SV.agg
          [Go.Sx.SV.int Go.IntKind.i64 (Go.Sx.toI Go.FloatKind.f64 x Go.IntKind.i64),
            Go.Sx.SV.int Go.IntKind.i64 (Go.Sx.toI Go.FloatKind.f64 y Go.IntKind.i64)])) := by kernel_rfl
theorem fromP : PureOk Try.prog 44 fromPF := by
  refine pure_of_vc g0 Try.func44 rfl (by kernel_rfl) ?_
  intro args v p h hp
  unfold fromPF at h
  split at h
  · rename_i x y
    injection h with h; injection h with h1 h2; subst h1; subst h2
    have hp : toIok .f64 x .i64 ∧ toIok .f64 y .i64 := hp
    refine ⟨rfl, _, _, (vc_fromP _ x y).mpr ?_⟩
    exact ⟨hp.1, hp.2, rfl, rfl, trivial⟩
  · cases h


def ptAt (a b c d : Nat) (i : Int) : Nat × Nat := if i = 0 then (a, b) else if i = 1 then (c, b) else if i = 2 then (c, d) else if i = 3 then (a, d) else (a, b)
def rPointAtF : PF := fun
  | [.agg [.flt .f64 a, .flt .f64 b, .flt .f64 c, .flt .f64 d], .int .i64 i] => some (.agg [.flt .f64 (ptAt a b c d i).1, .flt .f64 (ptAt a b c d i).2], some (0 ≤ i ∧ i ≤ 4))
  | _ => none
theorem vc_rPointAt (R : SV → Prop) (a b c d : Nat) (i : Int) : runA G0 0 [] [] (codeOf Try.f45) (init Try.f45.ntmps [.agg [.flt .f64 a, .flt .f64 b, .flt .f64 c, .flt .f64 d], .int .i64 i] [] 0) (endK G0.E.T Try.f45.results.toList fun _ v => R v) = (
  ((i == (0 : Int)) = Bool.true → R (Go.Sx.SV.agg [Go.Sx.SV.flt Go.FloatKind.f64 a, Go.Sx.SV.flt Go.FloatKind.f64 b])) ∧
    ((i == (0 : Int)) = Bool.false →
      ((i == (1 : Int)) = Bool.true →
          R (Go.Sx.SV.agg [Go.Sx.SV.flt Go.FloatKind.f64 c, Go.Sx.SV.flt Go.FloatKind.f64 b])) ∧
        ((i == (1 : Int)) = Bool.false →
          ((i == (2 : Int)) = Bool.true →
              R (Go.Sx.SV.agg [Go.Sx.SV.flt Go.FloatKind.f64 c, Go.Sx.SV.flt Go.FloatKind.f64 d])) ∧
            ((i == (2 : Int)) = Bool.false →
              ((i == (3 : Int)) = Bool.true →
                  R (Go.Sx.SV.agg [Go.Sx.SV.flt Go.FloatKind.f64 a, Go.Sx.SV.flt Go.FloatKind.f64 d])) ∧
                ((i == (3 : Int)) = Bool.false →
                  ((i == (4 : Int)) = Bool.true →
                      R (Go.Sx.SV.agg [Go.Sx.SV.flt Go.FloatKind.f64 a, Go.Sx.SV.flt Go.FloatKind.f64 b])) ∧
                    ((i == (4 : Int)) = Bool.false → False)))))) := by kernel_rfl
theorem rPointAt : PureOk Try.prog 45 rPointAtF := by
  refine pure_of_vc g0 Try.func45 rfl (by kernel_rfl) ?_
  intro args v p h hp
  unfold rPointAtF at h
  split at h
  · rename_i a b c d i
    injection h with h; injection h with h1 h2; subst h1; subst h2
    have hp : 0 ≤ i ∧ i ≤ 4 := hp
    refine ⟨rfl, _, _, (vc_rPointAt _ a b c d i).mpr ?_⟩
    simp only [eqv, eqvL, ptAt, fkEq_self]
    grind
  · cases h
def rSegAtF : PF := fun
  | [.agg [.flt .f64 a, .flt .f64 b, .flt .f64 c, .flt .f64 d], .int .i64 i] => some (.agg [.flt .f64 (ptAt a b c d i).1, .flt .f64 (ptAt a b c d i).2, .flt .f64 (ptAt a b c d (i + 1)).1, .flt .f64 (ptAt a b c d (i + 1)).2], some (0 ≤ i ∧ i ≤ 3))
  | _ => none
theorem vc_rSegAt (R : SV → Prop) (a b c d : Nat) (i : Int) : runA G0 0 [] [] (codeOf Try.f47) (init Try.f47.ntmps [.agg [.flt .f64 a, .flt .f64 b, .flt .f64 c, .flt .f64 d], .int .i64 i] [] 0) (endK G0.E.T Try.f47.results.toList fun _ v => R v) = (
  ((i == (0 : Int)) = Bool.true →
      R
        (Go.Sx.SV.agg
          [Go.Sx.SV.flt Go.FloatKind.f64 a, Go.Sx.SV.flt Go.FloatKind.f64 b, Go.Sx.SV.flt Go.FloatKind.f64 c,
            Go.Sx.SV.flt Go.FloatKind.f64 b])) ∧
    ((i == (0 : Int)) = Bool.false →
      ((i == (1 : Int)) = Bool.true →
          R
            (Go.Sx.SV.agg
              [Go.Sx.SV.flt Go.FloatKind.f64 c, Go.Sx.SV.flt Go.FloatKind.f64 b, Go.Sx.SV.flt Go.FloatKind.f64 c,
                Go.Sx.SV.flt Go.FloatKind.f64 d])) ∧
        ((i == (1 : Int)) = Bool.false →
          ((i == (2 : Int)) = Bool.true →
              R
                (Go.Sx.SV.agg
                  [Go.Sx.SV.flt Go.FloatKind.f64 c, Go.Sx.SV.flt Go.FloatKind.f64 d, Go.Sx.SV.flt Go.FloatKind.f64 a,
                    Go.Sx.SV.flt Go.FloatKind.f64 d])) ∧
            ((i == (2 : Int)) = Bool.false →
              ((i == (3 : Int)) = Bool.true →
                  R
                    (Go.Sx.SV.agg
                      [Go.Sx.SV.flt Go.FloatKind.f64 a, Go.Sx.SV.flt Go.FloatKind.f64 d, Go.Sx.SV.flt Go.FloatKind.f64 a,
                        Go.Sx.SV.flt Go.FloatKind.f64 b])) ∧
                ((i == (3 : Int)) = Bool.false → False))))) := by kernel_rfl
theorem rSegAt : PureOk Try.prog 47 rSegAtF := by
  refine pure_of_vc g0 Try.func47 rfl (by kernel_rfl) ?_
  intro args v p h hp
  unfold rSegAtF at h
  split at h
  · rename_i a b c d i
    injection h with h; injection h with h1 h2; subst h1; subst h2
    have hp : 0 ≤ i ∧ i ≤ 3 := hp
    refine ⟨rfl, _, _, (vc_rSegAt _ a b c d i).mpr ?_⟩
    simp only [eqv, eqvL, ptAt, fkEq_self]
    grind
  · cases h

/-! ### Slices of points -/
def GA : Ctx := ⟨⟨tys, []⟩, [(9, pureCon implF)]⟩
theorem gA : CtxOk Try.prog GA := ⟨⟨tysOk, FlatsOk.nil⟩, GamOk.cons (.pure impl) GamOk.nil, by kernel_rfl⟩
def awakeF : PF := fun
  | [] => some (.tt, none)
  | _ => none
theorem vc_awake (R : SV → Prop) : runA GA 0 [] [] (codeOf Try.f8) (init Try.f8.ntmps [] [] 0) (endK GA.E.T Try.f8.results.toList fun _ v => R v) = (
  Go.Proofs.Try.Sx.small6 (0 : Int) (0 : Int) (2 : Int) (2 : Int) (1 : Int) (1 : Int) ∧ R (Go.Sx.SV.bool Bool.true)) := by kernel_rfl
theorem awake : PureOk Try.prog 8 awakeF := by
  refine pure_of_vc gA Try.func8 rfl (by kernel_rfl) ?_
  intro args v p h hp
  unfold awakeF at h
  split at h
  · injection h with h; injection h with h1 h2; subst h1; subst h2
    clear hp
    refine ⟨rfl, _, _, (vc_awake _).mpr ?_⟩
    exact ⟨by unfold small6 small; omega, by simp [eqv]⟩
  · cases h

def pt4 (a b c d : Int) (i : Nat) : Int := [a, b, c, b, c, d, a, d, a, b].getD i 0
noncomputable def corners4C : List SV → RdM
  | [.agg [.int .i64 a, .int .i64 b, .int .i64 c, .int .i64 d]] => .ret ⟨[.agg [.int .i64 a, .int .i64 b, .int .i64 c, .int .i64 d]], [], .slcc 0 5, [], [(0, ⟨true, 31, .cells [.int .i64 a, .int .i64 b, .int .i64 c, .int .i64 b, .int .i64 c, .int .i64 d, .int .i64 a, .int .i64 d, .int .i64 a, .int .i64 b], 2⟩)], some (True)⟩
  | _ => .fail
theorem vc_corners4 (a b c d : Int) : runA G0 0 [] [] (codeOf Try.f20) (init Try.f20.ntmps [.agg [.int .i64 a, .int .i64 b, .int .i64 c, .int .i64 d]] [] 0) (endK G0.E.T Try.f20.results.toList fun S v => postP 0 ⟨[.agg [.int .i64 a, .int .i64 b, .int .i64 c, .int .i64 d]], [], .slcc 0 5, [], [(0, ⟨true, 31, .cells [.int .i64 a, .int .i64 b, .int .i64 c, .int .i64 b, .int .i64 c, .int .i64 d, .int .i64 a, .int .i64 d, .int .i64 a, .int .i64 b], 2⟩)], some (True)⟩ S v) = (
  (((0 : Int) ≤ (0 : Int) ∧ (0 : Int) < (2 : Int)) ∧ True) ∧
    (((0 : Int) ≤ (1 : Int) ∧ (1 : Int) < (2 : Int)) ∧ True) ∧
      (((0 : Int) ≤ (0 : Int) ∧ (0 : Int) < (2 : Int)) ∧ True) ∧
        (((0 : Int) ≤ (1 : Int) ∧ (1 : Int) < (2 : Int)) ∧ True) ∧
          (((0 : Int) ≤ (0 : Int) ∧ (0 : Int) < (2 : Int)) ∧ True) ∧
            (((0 : Int) ≤ (1 : Int) ∧ (1 : Int) < (2 : Int)) ∧ True) ∧
              (((0 : Int) ≤ (0 : Int) ∧ (0 : Int) < (2 : Int)) ∧ True) ∧
                (True ∧ (5 : Nat) = (5 : Nat)) ∧
                  True ∧
                    ((31 : Nat) = (31 : Nat) ∧
                        (2 : Nat) = (2 : Nat) ∧
                          a = a ∧ b = b ∧ c = c ∧ b = b ∧ c = c ∧ d = d ∧ a = a ∧ d = d ∧ a = a ∧ b = b ∧ True) ∧
                      True) := by kernel_rfl
theorem corners4 : ConOk Try.prog 20 (conR corners4C) := by
  refine con_of_vc g0 Try.func20 rfl (by kernel_rfl) fun args => ?_
  unfold corners4C
  split
  · rename_i a b c d
    intro ho
    replace ho : True := ho
    refine ⟨?_, _, _, (vc_corners4 a b c d).mpr ?_⟩
    · refine okFlag_mk rfl ⟨?_, trivial⟩
      simp [eqvRL, eqvR, kEq_self, fkEq_self, sgSig, fsts, nth, sameN_self]
    · simp
  · trivial

theorem flat31 : FlatEq Try.prog 31 [false, false] :=
  (fe_struct2 tysOk (t := 31) (e0 := 2) (e1 := 2) Try.underlying31 (by kernel_rfl) (by decide) (by decide) ⟨rfl, rfl⟩ ⟨rfl, rfl⟩ (by rfl) (by rfl) rfl rfl).flat (by kernel_rfl) (by decide)
theorem fe31 : FE Try.prog 31 [false, false] 2 :=
  fe_struct2 tysOk (t := 31) (e0 := 2) (e1 := 2) Try.underlying31 (by kernel_rfl) (by decide) (by decide) ⟨rfl, rfl⟩ ⟨rfl, rfl⟩ (by rfl) (by rfl) rfl rfl
theorem flat23 : FlatEq Try.prog 23 [false, false] :=
  (fe_struct2 tysOk (t := 23) (e0 := 2) (e1 := 2) Try.underlying23 (by kernel_rfl) (by decide) (by decide) ⟨rfl, rfl⟩ ⟨rfl, rfl⟩ (by rfl) (by rfl) rfl rfl).flat (by kernel_rfl) (by decide)
theorem flat34 : FlatEq Try.prog 34 [false, false, false, false] :=
  (fe_array2 tysOk (t := 34) (e := 31) Try.underlying34 (by rfl) rfl rfl fe31).flat (by kernel_rfl) (by decide)

def FL : Flats := [(31, [false, false]), (23, [false, false]), (34, [false, false, false, false])]
theorem flOk : FlatsOk Try.prog FL := FlatsOk.cons flat31 (FlatsOk.cons flat23 (FlatsOk.cons flat34 FlatsOk.nil))

def GS : Ctx := ⟨⟨tys, FL⟩, [(12, pureCon geoRectF)]⟩
theorem gS : CtxOk Try.prog GS := ⟨⟨tysOk, flOk⟩, GamOk.cons (.pure geoRect) GamOk.nil, by kernel_rfl⟩

def sameL (len : Nat) (g h : Nat → Int) : Fam := ⟨Nat, fun i =>
  ⟨26, [(0, .slcc 0 len), (1, .slcc 1 len), (12, .int .i64 len), (13, .int .i64 i)], [(0, ⟨false, 23, .ints .i64 (2 * len) g, 0⟩), (1, ⟨false, 31, .ints .i64 (2 * len) h, 0⟩)], 2⟩, fun i => i ≤ len ∧ ∀ j, j < 2 * i → g j = h j, fun i => len - i⟩
def agree (m : Nat) (g h : Nat → Int) : Prop := ∀ j, j < m → g j = h j
instance (m : Nat) (g h : Nat → Int) : Decidable (agree m g h) := by unfold agree; infer_instance

noncomputable def geoSameC : List SV → RdM
  | [.slcc n0 len, .slcc n1 len1] => .read n0 fun o0 => (match intsFrom .i64 o0.c with
    | some (m0, g) => .read n1 fun o1 => (match intsFrom .i64 o1.c with
    | some (m1, h) => .ret ⟨[.slcc 0 len, .slcc 1 len], [(0, ⟨false, 23, .ints .i64 m0 g, 0⟩), (1, ⟨false, 31, .ints .i64 m1 h, 0⟩)], .bool (decide (agree (2 * len) g h)), [], [], some (len = len1 ∧ m0 = 2 * len ∧ m1 = 2 * len ∧ len ≤ 1000000)⟩
    | none => .fail)
    | none => .fail)
  | _ => .fail
theorem vc_geoSame (len : Nat) (g : Nat → Int) (h : Nat → Int) : runA GS 2 [(4, sameL len g h)] [] (codeOf Try.f19) (init Try.f19.ntmps [.slcc 0 len, .slcc 1 len] [(0, ⟨false, 23, .ints .i64 (2 * len) g, 0⟩), (1, ⟨false, 31, .ints .i64 (2 * len) h, 0⟩)] 2) (endK GS.E.T Try.f19.results.toList fun S v => postP 2 ⟨[.slcc 0 len, .slcc 1 len], [(0, ⟨false, 23, .ints .i64 (2 * len) g, 0⟩), (1, ⟨false, 31, .ints .i64 (2 * len) h, 0⟩)], .bool (decide (agree (2 * len) g h)), [], [], some (len = len ∧ 2 * len = 2 * len ∧ 2 * len = 2 * len ∧ len ≤ 1000000)⟩ S v) = (
  (((↑len : Int) != (↑len : Int)) = Bool.true →
      Decidable.decide (Go.Proofs.Try.Sx.agree ((2 : Nat) * len) g h) = Bool.false ∧ True) ∧
    (((↑len : Int) != (↑len : Int)) = Bool.false →
      (∃ (i : Nat),
          (i ≤ len ∧ ∀ (j : Nat), j < (2 : Nat) * i → g j = h j) ∧
            ((True ∧ len = len) ∧ (True ∧ len = len) ∧ (↑len : Int) = (↑len : Int) ∧ (0 : Int) = (↑i : Int) ∧ True) ∧
              True ∧
                ((2 : Nat) * len ≤ (2 : Nat) * len ∧ ∀ (i : Nat), i < (2 : Nat) * len → g i = g i) ∧
                  True ∧ ((2 : Nat) * len ≤ (2 : Nat) * len ∧ ∀ (i : Nat), i < (2 : Nat) * len → h i = h i) ∧ True) ∧
        ∀ (i : Nat),
          (i ≤ len ∧ ∀ (j : Nat), j < (2 : Nat) * i → g j = h j) →
            (Decidable.decide ((↑i : Int) < (↑len : Int)) = Bool.true →
                (((0 : Int) ≤ (↑i : Int) ∧ (↑i : Int) < (↑len : Int)) ∧ (1 : Nat) ≤ (2 : Nat) * len) ∧
                  (0 : Nat) + Int.toNat (↑i : Int) * (2 : Nat) + (2 : Nat) ≤ (2 : Nat) * len ∧
                    (((0 : Int) ≤ (↑i : Int) ∧ (↑i : Int) < (↑len : Int)) ∧ (1 : Nat) ≤ (2 : Nat) * len) ∧
                      (0 : Nat) + Int.toNat (↑i : Int) * (2 : Nat) + (2 : Nat) ≤ (2 : Nat) * len ∧
                        Bool.true = Bool.true ∧
                          ((!(g ((0 : Nat) + Int.toNat (↑i : Int) * (2 : Nat)) ==
                                      h ((0 : Nat) + Int.toNat (↑i : Int) * (2 : Nat)) &&
                                    (g ((0 : Nat) + Int.toNat (↑i : Int) * (2 : Nat) + (1 : Nat)) ==
                                        h ((0 : Nat) + Int.toNat (↑i : Int) * (2 : Nat) + (1 : Nat)) &&
                                      Bool.true))) =
                                Bool.true →
                              Decidable.decide (Go.Proofs.Try.Sx.agree ((2 : Nat) * len) g h) = Bool.false ∧ True) ∧
                            ((!(g ((0 : Nat) + Int.toNat (↑i : Int) * (2 : Nat)) ==
                                      h ((0 : Nat) + Int.toNat (↑i : Int) * (2 : Nat)) &&
                                    (g ((0 : Nat) + Int.toNat (↑i : Int) * (2 : Nat) + (1 : Nat)) ==
                                        h ((0 : Nat) + Int.toNat (↑i : Int) * (2 : Nat) + (1 : Nat)) &&
                                      Bool.true))) =
                                Bool.false →
                              ∃ (i' : Nat),
                                (i' ≤ len ∧ ∀ (j : Nat), j < (2 : Nat) * i' → g j = h j) ∧
                                  len - i' < len - i ∧
                                    ((True ∧ len = len) ∧
                                        (True ∧ len = len) ∧
                                          (↑len : Int) = (↑len : Int) ∧
                                            Go.IntKind.wrap Go.IntKind.i64 ((↑i : Int) + (1 : Int)) = (↑i' : Int) ∧
                                              True) ∧
                                      True ∧
                                        ((2 : Nat) * len ≤ (2 : Nat) * len ∧
                                            ∀ (i : Nat), i < (2 : Nat) * len → g i = g i) ∧
                                          True ∧
                                            ((2 : Nat) * len ≤ (2 : Nat) * len ∧
                                                ∀ (i : Nat), i < (2 : Nat) * len → h i = h i) ∧
                                              True)) ∧
              (Decidable.decide ((↑i : Int) < (↑len : Int)) = Bool.false →
                Decidable.decide (Go.Proofs.Try.Sx.agree ((2 : Nat) * len) g h) = Bool.true ∧ True))) := by kernel_rfl
theorem geoSame : ConOk Try.prog 19 (conR geoSameC) := by
  refine con_of_vc gS Try.func19 rfl (by kernel_rfl) fun args => ?_
  unfold geoSameC
  split
  · rename_i n0 len n1 len1
    intro o0
    show RdM.All _ (match intsFrom .i64 o0.c with | some (m, g) => _ | none => _) _
    split
    · rename_i m0 g hm0
      intro o1
      show RdM.All _ (match intsFrom .i64 o1.c with | some (m, g) => _ | none => _) _
      split
      · rename_i m1 h hm1
        intro ho
        replace ho : len = len1 ∧ m0 = 2 * len ∧ m1 = 2 * len ∧ len ≤ 1000000 := ho
        obtain ⟨heq0, hsz0, hsz1, ho⟩ := ho
        subst heq0
        subst hsz0
        subst hsz1
        refine ⟨?_, _, _, (vc_geoSame len g h).mpr ?_⟩
        · refine okFlag_mk rfl ⟨?_, ⟨trivial, (contR_ints hm0).1, ⟨trivial, (contR_ints hm1).1, trivial⟩⟩⟩
          simp [eqvRL, eqvR, kEq_self, fkEq_self, sgSig, fsts, nth, sameN_self]
        · refine ⟨fun h => absurd h (by simp), fun _ => ⟨⟨0, by simp⟩, fun i hi => ⟨fun h => ?_, fun h => ?_⟩⟩⟩
          · have h := of_decide_eq_true h
            have e : 0 + (i : Int).toNat * 2 = 2 * i := by omega
            have hw : IntKind.i64.wrap ((i : Int) + 1) = ((i + 1 : Nat) : Int) := by rw [wrap64 (by omega) (by omega)]; omega
            rw [e]
            refine ⟨by omega, by omega, by omega, by omega, rfl, fun hne => ⟨decide_eq_false fun ha => ?_, trivial⟩, fun heq => ⟨i + 1, ⟨by omega, fun j hj => ?_⟩, by omega, by simp [hw]⟩⟩
            · have h1 := ha (2 * i) (by omega)
              have h2 := ha (2 * i + 1) (by omega)
              simp [h1, h2] at hne
            · simp at heq
              have : j < 2 * i ∨ j = 2 * i ∨ j = 2 * i + 1 := by omega
              rcases this with hlt | rfl | rfl
              · exact hi.2 j hlt
              · exact heq.1
              · exact heq.2
          · have h := of_decide_eq_false h
            have : i = len := by omega
            subst this
            exact ⟨decide_eq_true hi.2, trivial⟩
      · trivial
    · trivial
  · trivial

def sameSegL (len : Nat) (g h : Nat → Int) : Fam := ⟨Nat, fun i =>
  ⟨27, [(0, .slcc 0 len), (1, .slcc 1 len), (12, .int .i64 len), (13, .int .i64 i)], [(0, ⟨false, 33, .ints .i64 (4 * len) g, 0⟩), (1, ⟨false, 34, .ints .i64 (4 * len) h, 0⟩)], 2⟩, fun i => i ≤ len ∧ ∀ j, j < 4 * i → g j = h j, fun i => len - i⟩
noncomputable def sameSegC : List SV → RdM
  | [.slcc n0 len, .slcc n1 len1] => .read n0 fun o0 => (match intsFrom .i64 o0.c with
    | some (m0, g) => .read n1 fun o1 => (match intsFrom .i64 o1.c with
    | some (m1, h) => .ret ⟨[.slcc 0 len, .slcc 1 len], [(0, ⟨false, 33, .ints .i64 m0 g, 0⟩), (1, ⟨false, 34, .ints .i64 m1 h, 0⟩)], .bool (decide (agree (4 * len) g h)), [], [], some (len = len1 ∧ m0 = 4 * len ∧ m1 = 4 * len ∧ len ≤ 1000000)⟩
    | none => .fail)
    | none => .fail)
  | _ => .fail
theorem vc_sameSeg (len : Nat) (g : Nat → Int) (h : Nat → Int) : runA GS 2 [(4, sameSegL len g h)] [] (codeOf Try.f21) (init Try.f21.ntmps [.slcc 0 len, .slcc 1 len] [(0, ⟨false, 33, .ints .i64 (4 * len) g, 0⟩), (1, ⟨false, 34, .ints .i64 (4 * len) h, 0⟩)] 2) (endK GS.E.T Try.f21.results.toList fun S v => postP 2 ⟨[.slcc 0 len, .slcc 1 len], [(0, ⟨false, 33, .ints .i64 (4 * len) g, 0⟩), (1, ⟨false, 34, .ints .i64 (4 * len) h, 0⟩)], .bool (decide (agree (4 * len) g h)), [], [], some (len = len ∧ 4 * len = 4 * len ∧ 4 * len = 4 * len ∧ len ≤ 1000000)⟩ S v) = (
  (((↑len : Int) != (↑len : Int)) = Bool.true →
      Decidable.decide (Go.Proofs.Try.Sx.agree ((4 : Nat) * len) g h) = Bool.false ∧ True) ∧
    (((↑len : Int) != (↑len : Int)) = Bool.false →
      (∃ (i : Nat),
          (i ≤ len ∧ ∀ (j : Nat), j < (4 : Nat) * i → g j = h j) ∧
            ((True ∧ len = len) ∧ (True ∧ len = len) ∧ (↑len : Int) = (↑len : Int) ∧ (0 : Int) = (↑i : Int) ∧ True) ∧
              True ∧
                ((4 : Nat) * len ≤ (4 : Nat) * len ∧ ∀ (i : Nat), i < (4 : Nat) * len → g i = g i) ∧
                  True ∧ ((4 : Nat) * len ≤ (4 : Nat) * len ∧ ∀ (i : Nat), i < (4 : Nat) * len → h i = h i) ∧ True) ∧
        ∀ (i : Nat),
          (i ≤ len ∧ ∀ (j : Nat), j < (4 : Nat) * i → g j = h j) →
            (Decidable.decide ((↑i : Int) < (↑len : Int)) = Bool.true →
                (((0 : Int) ≤ (↑i : Int) ∧ (↑i : Int) < (↑len : Int)) ∧ (1 : Nat) ≤ (4 : Nat) * len) ∧
                  (0 : Nat) + Int.toNat (↑i : Int) * (4 : Nat) + (4 : Nat) ≤ (4 : Nat) * len ∧
                    (((0 : Int) ≤ (↑i : Int) ∧ (↑i : Int) < (↑len : Int)) ∧ (1 : Nat) ≤ (4 : Nat) * len) ∧
                      (0 : Nat) + Int.toNat (↑i : Int) * (4 : Nat) + (4 : Nat) ≤ (4 : Nat) * len ∧
                        Bool.true = Bool.true ∧
                          ((!(g ((0 : Nat) + Int.toNat (↑i : Int) * (4 : Nat)) ==
                                      h ((0 : Nat) + Int.toNat (↑i : Int) * (4 : Nat)) &&
                                    (g ((0 : Nat) + Int.toNat (↑i : Int) * (4 : Nat) + (1 : Nat)) ==
                                        h ((0 : Nat) + Int.toNat (↑i : Int) * (4 : Nat) + (1 : Nat)) &&
                                      (g ((0 : Nat) + Int.toNat (↑i : Int) * (4 : Nat) + (1 : Nat) + (1 : Nat)) ==
                                          h ((0 : Nat) + Int.toNat (↑i : Int) * (4 : Nat) + (1 : Nat) + (1 : Nat)) &&
                                        (g
                                              ((0 : Nat) + Int.toNat (↑i : Int) * (4 : Nat) + (1 : Nat) + (1 : Nat) +
                                                (1 : Nat)) ==
                                            h
                                              ((0 : Nat) + Int.toNat (↑i : Int) * (4 : Nat) + (1 : Nat) + (1 : Nat) +
                                                (1 : Nat)) &&
                                          Bool.true))))) =
                                Bool.true →
                              Decidable.decide (Go.Proofs.Try.Sx.agree ((4 : Nat) * len) g h) = Bool.false ∧ True) ∧
                            ((!(g ((0 : Nat) + Int.toNat (↑i : Int) * (4 : Nat)) ==
                                      h ((0 : Nat) + Int.toNat (↑i : Int) * (4 : Nat)) &&
                                    (g ((0 : Nat) + Int.toNat (↑i : Int) * (4 : Nat) + (1 : Nat)) ==
                                        h ((0 : Nat) + Int.toNat (↑i : Int) * (4 : Nat) + (1 : Nat)) &&
                                      (g ((0 : Nat) + Int.toNat (↑i : Int) * (4 : Nat) + (1 : Nat) + (1 : Nat)) ==
                                          h ((0 : Nat) + Int.toNat (↑i : Int) * (4 : Nat) + (1 : Nat) + (1 : Nat)) &&
                                        (g
                                              ((0 : Nat) + Int.toNat (↑i : Int) * (4 : Nat) + (1 : Nat) + (1 : Nat) +
                                                (1 : Nat)) ==
                                            h
                                              ((0 : Nat) + Int.toNat (↑i : Int) * (4 : Nat) + (1 : Nat) + (1 : Nat) +
                                                (1 : Nat)) &&
                                          Bool.true))))) =
                                Bool.false →
                              ∃ (i' : Nat),
                                (i' ≤ len ∧ ∀ (j : Nat), j < (4 : Nat) * i' → g j = h j) ∧
                                  len - i' < len - i ∧
                                    ((True ∧ len = len) ∧
                                        (True ∧ len = len) ∧
                                          (↑len : Int) = (↑len : Int) ∧
                                            Go.IntKind.wrap Go.IntKind.i64 ((↑i : Int) + (1 : Int)) = (↑i' : Int) ∧
                                              True) ∧
                                      True ∧
                                        ((4 : Nat) * len ≤ (4 : Nat) * len ∧
                                            ∀ (i : Nat), i < (4 : Nat) * len → g i = g i) ∧
                                          True ∧
                                            ((4 : Nat) * len ≤ (4 : Nat) * len ∧
                                                ∀ (i : Nat), i < (4 : Nat) * len → h i = h i) ∧
                                              True)) ∧
              (Decidable.decide ((↑i : Int) < (↑len : Int)) = Bool.false →
                Decidable.decide (Go.Proofs.Try.Sx.agree ((4 : Nat) * len) g h) = Bool.true ∧ True))) := by kernel_rfl
theorem sameSeg : ConOk Try.prog 21 (conR sameSegC) := by
  refine con_of_vc gS Try.func21 rfl (by kernel_rfl) fun args => ?_
  unfold sameSegC
  split
  · rename_i n0 len n1 len1
    intro o0
    show RdM.All _ (match intsFrom .i64 o0.c with | some (m, g) => _ | none => _) _
    split
    · rename_i m0 g hm0
      intro o1
      show RdM.All _ (match intsFrom .i64 o1.c with | some (m, g) => _ | none => _) _
      split
      · rename_i m1 h hm1
        intro ho
        replace ho : len = len1 ∧ m0 = 4 * len ∧ m1 = 4 * len ∧ len ≤ 1000000 := ho
        obtain ⟨heq0, hsz0, hsz1, ho⟩ := ho
        subst heq0
        subst hsz0
        subst hsz1
        refine ⟨?_, _, _, (vc_sameSeg len g h).mpr ?_⟩
        · refine okFlag_mk rfl ⟨?_, ⟨trivial, (contR_ints hm0).1, ⟨trivial, (contR_ints hm1).1, trivial⟩⟩⟩
          simp [eqvRL, eqvR, kEq_self, fkEq_self, sgSig, fsts, nth, sameN_self]
        · refine ⟨fun h => absurd h (by simp), fun _ => ⟨⟨0, by simp⟩, fun i hi => ⟨fun h => ?_, fun h => ?_⟩⟩⟩
          · have h := of_decide_eq_true h
            have e : 0 + (i : Int).toNat * 4 = 4 * i := by omega
            have hw : IntKind.i64.wrap ((i : Int) + 1) = ((i + 1 : Nat) : Int) := by rw [wrap64 (by omega) (by omega)]; omega
            rw [e]
            refine ⟨by omega, by omega, by omega, by omega, rfl, fun hne => ⟨decide_eq_false fun ha => ?_, trivial⟩, fun heq => ⟨i + 1, ⟨by omega, fun j hj => ?_⟩, by omega, by simp [hw]⟩⟩
            · have h1 := ha (4 * i) (by omega)
              have h2 := ha (4 * i + 1) (by omega)
              have h3 := ha (4 * i + 1 + 1) (by omega)
              have h4 := ha (4 * i + 1 + 1 + 1) (by omega)
              simp [h1, h2, h3, h4] at hne
            · simp at heq
              have : j < 4 * i ∨ j = 4 * i ∨ j = 4 * i + 1 ∨ j = 4 * i + 1 + 1 ∨ j = 4 * i + 1 + 1 + 1 := by omega
              rcases this with hlt | rfl | rfl | rfl | rfl
              · exact hi.2 j hlt
              · exact heq.1
              · exact heq.2.1
              · exact heq.2.2.1
              · exact heq.2.2.2
          · have h := of_decide_eq_false h
            have : i = len := by omega
            subst this
            exact ⟨decide_eq_true hi.2, trivial⟩
      · trivial
    · trivial
  · trivial

def geoValid (m : Nat) (g : Nat → Int) : Bool := decide (∀ i, i < m → -180 ≤ g (2 * i) ∧ g (2 * i) ≤ 180 ∧ -90 ≤ g (2 * i + 1) ∧ g (2 * i + 1) ≤ 90)
def validL (len : Nat) (g : Nat → Int) : Fam := ⟨Nat, fun i =>
  ⟨30, [(5, .slcc 0 len), (6, .int .i64 len), (7, .int .i64 i)], [(0, ⟨false, 31, .ints .i64 (2 * len) g, 0⟩)], 1⟩, fun i => i ≤ len ∧ geoValid i g = true, fun i => len - i⟩
noncomputable def geoValidCC : List SV → RdM
  | [.slcc n len] => .read n fun o0 => (match intsFrom .i64 o0.c with
    | some (m0, g) => .ret ⟨[.slcc 0 len], [(0, ⟨false, 31, .ints .i64 m0 g, 0⟩)], .bool (geoValid len g), [], [], some (m0 = 2 * len ∧ len ≤ 1000000)⟩
    | none => .fail)
  | _ => .fail
theorem vc_geoValidC (len : Nat) (g : Nat → Int) : runA G0 1 [(2, validL len g)] [] (codeOf Try.f18) (init Try.f18.ntmps [.slcc 0 len] [(0, ⟨false, 31, .ints .i64 (2 * len) g, 0⟩)] 1) (endK G0.E.T Try.f18.results.toList fun S v => postP 1 ⟨[.slcc 0 len], [(0, ⟨false, 31, .ints .i64 (2 * len) g, 0⟩)], .bool (geoValid len g), [], [], some (2 * len = 2 * len ∧ len ≤ 1000000)⟩ S v) = (
  (∃ (i : Nat),
      (i ≤ len ∧ Go.Proofs.Try.Sx.geoValid i g = Bool.true) ∧
        ((True ∧ len = len) ∧ (↑len : Int) = (↑len : Int) ∧ (0 : Int) = (↑i : Int) ∧ True) ∧
          True ∧ ((2 : Nat) * len ≤ (2 : Nat) * len ∧ ∀ (i : Nat), i < (2 : Nat) * len → g i = g i) ∧ True) ∧
    ∀ (i : Nat),
      i ≤ len ∧ Go.Proofs.Try.Sx.geoValid i g = Bool.true →
        (Decidable.decide ((↑i : Int) < (↑len : Int)) = Bool.true →
            (((0 : Int) ≤ (↑i : Int) ∧ (↑i : Int) < (↑len : Int)) ∧ (1 : Nat) ≤ (2 : Nat) * len) ∧
              (0 : Nat) + Int.toNat (↑i : Int) * (2 : Nat) + (2 : Nat) ≤ (2 : Nat) * len ∧
                (Decidable.decide (g ((0 : Nat) + Int.toNat (↑i : Int) * (2 : Nat)) < (-180 : Int)) = Bool.true →
                    Go.Proofs.Try.Sx.geoValid len g = Bool.false ∧ True) ∧
                  (Decidable.decide (g ((0 : Nat) + Int.toNat (↑i : Int) * (2 : Nat)) < (-180 : Int)) = Bool.false →
                    (Decidable.decide ((180 : Int) < g ((0 : Nat) + Int.toNat (↑i : Int) * (2 : Nat))) = Bool.true →
                        Go.Proofs.Try.Sx.geoValid len g = Bool.false ∧ True) ∧
                      (Decidable.decide ((180 : Int) < g ((0 : Nat) + Int.toNat (↑i : Int) * (2 : Nat))) = Bool.false →
                        (Decidable.decide (g ((0 : Nat) + Int.toNat (↑i : Int) * (2 : Nat) + (1 : Nat)) < (-90 : Int)) =
                              Bool.true →
                            Go.Proofs.Try.Sx.geoValid len g = Bool.false ∧ True) ∧
                          (Decidable.decide (g ((0 : Nat) + Int.toNat (↑i : Int) * (2 : Nat) + (1 : Nat)) < (-90 : Int)) =
                              Bool.false →
                            (Decidable.decide
                                    ((90 : Int) < g ((0 : Nat) + Int.toNat (↑i : Int) * (2 : Nat) + (1 : Nat))) =
                                  Bool.true →
                                Go.Proofs.Try.Sx.geoValid len g = Bool.false ∧ True) ∧
                              (Decidable.decide
                                    ((90 : Int) < g ((0 : Nat) + Int.toNat (↑i : Int) * (2 : Nat) + (1 : Nat))) =
                                  Bool.false →
                                ∃ (i' : Nat),
                                  (i' ≤ len ∧ Go.Proofs.Try.Sx.geoValid i' g = Bool.true) ∧
                                    len - i' < len - i ∧
                                      ((True ∧ len = len) ∧
                                          (↑len : Int) = (↑len : Int) ∧
                                            Go.IntKind.wrap Go.IntKind.i64 ((↑i : Int) + (1 : Int)) = (↑i' : Int) ∧
                                              True) ∧
                                        True ∧
                                          ((2 : Nat) * len ≤ (2 : Nat) * len ∧
                                              ∀ (i : Nat), i < (2 : Nat) * len → g i = g i) ∧
                                            True))))) ∧
          (Decidable.decide ((↑i : Int) < (↑len : Int)) = Bool.false → Go.Proofs.Try.Sx.geoValid len g = Bool.true ∧ True)) := by kernel_rfl
theorem geoValidC : ConOk Try.prog 18 (conR geoValidCC) := by
  refine con_of_vc g0 Try.func18 rfl (by kernel_rfl) fun args => ?_
  unfold geoValidCC
  split
  · rename_i n len
    intro o0
    show RdM.All _ (match intsFrom .i64 o0.c with | some (m, g) => _ | none => _) _
    split
    · rename_i m0 g hm0
      intro ho
      replace ho : m0 = 2 * len ∧ len ≤ 1000000 := ho
      obtain ⟨hsz0, ho⟩ := ho
      subst hsz0
      refine ⟨?_, _, _, (vc_geoValidC len g).mpr ?_⟩
      · refine okFlag_mk rfl ⟨?_, ⟨trivial, (contR_ints hm0).1, trivial⟩⟩
        simp [eqvRL, eqvR, kEq_self, fkEq_self, sgSig, fsts, nth, sameN_self]
      · refine ⟨⟨0, by simp [geoValid]⟩, fun i hi => ⟨fun h => ?_, fun h => ?_⟩⟩
        · have h := of_decide_eq_true h
          have e : 0 + (i : Int).toNat * 2 = 2 * i := by omega
          have hw : IntKind.i64.wrap ((i : Int) + 1) = ((i + 1 : Nat) : Int) := by rw [wrap64 (by omega) (by omega)]; omega
          rw [e]
          have bad : ¬ (-180 ≤ g (2 * i) ∧ g (2 * i) ≤ 180 ∧ -90 ≤ g (2 * i + 1) ∧ g (2 * i + 1) ≤ 90) → geoValid len g = false := fun hb => decide_eq_false fun ha => hb (ha i (by omega))
          refine ⟨by omega, by omega, fun h1 => ⟨bad fun hh => ?_, trivial⟩, fun h1 => ⟨fun h2 => ⟨bad fun hh => ?_, trivial⟩, fun h2 => ⟨fun h3 => ⟨bad fun hh => ?_, trivial⟩, fun h3 => ⟨fun h4 => ⟨bad fun hh => ?_, trivial⟩, fun h4 => ?_⟩⟩⟩⟩
          · have h1 := of_decide_eq_true h1; omega
          · have h2 := of_decide_eq_true h2; omega
          · have h3 := of_decide_eq_true h3; omega
          · have h4 := of_decide_eq_true h4; omega
          · have h1 := of_decide_eq_false h1
            have h2 := of_decide_eq_false h2
            have h3 := of_decide_eq_false h3
            have h4 := of_decide_eq_false h4
            refine ⟨i + 1, ⟨by omega, decide_eq_true fun j hj => ?_⟩, by omega, by simp [hw]⟩
            have : j < i ∨ j = i := by omega
            rcases this with hlt | rfl
            · exact of_decide_eq_true hi.2 j hlt
            · omega
        · have h := of_decide_eq_false h
          have : i = len := by omega
          subst this
          exact ⟨hi.2, trivial⟩
    · trivial
  · trivial

/-- The segments of points, whole numbers by fours. -/
def segI (g : Nat → Int) (len : Nat) (j : Nat) : Int := if j / 4 + 1 < len then g (2 * (j / 4) + j % 4) else if j % 4 < 2 then g (2 * (j / 4) + j % 4) else g (j % 4 - 2)
def segsL (len : Nat) (b : Bool) (g : Nat → Int) : Fam := ⟨Nat, fun i =>
  ⟨62, [(0, .slcc 0 len), (1, .bool b), (5, .slcc 1 i), (21, .int .i64 ((len : Int) - 1)), (22, .int .i64 i)], [(0, ⟨false, 31, .ints .i64 (2 * len) g, 0⟩), (1, ⟨true, 34, .ints .i64 (4 * i) (segI g len), 4⟩)], 2⟩, fun i => i + 1 ≤ len, fun i => len - i⟩
def segsK (len : Nat) (b : Bool) (g : Nat → Int) : Fam := ⟨Nat, fun _ =>
  ⟨62, [(0, .slcc 0 len), (1, .bool b), (5, .nils)], [(0, ⟨false, 31, .ints .i64 (2 * len) g, 0⟩)], 1⟩, fun _ => 2 ≤ len ∧ (b = true → 3 ≤ len), fun _ => 0⟩
def nsegs (len : Nat) (b : Bool) (g : Nat → Int) : Nat :=
  if len < 2 ∨ (b = true ∧ len < 3) then 0 else if b = true ∧ ¬ (g (2 * len - 2) = g 0 ∧ g (2 * len - 1) = g 1) then len else len - 1

theorem more_four {i : Nat} {f : Nat → Int} {x y z w : Int} (hx : x = f (4 * i)) (hy : y = f (4 * i + 1)) (hz : z = f (4 * i + 2)) (hw : w = f (4 * i + 3)) : ∀ j, j < 4 * (i + 1) → more (4 * i) f [x, y, z, w] 0 j = f j := by
  intro j hj
  subst hx hy hz hw
  unfold more
  split
  · rfl
  · have : j = 4 * i ∨ j = 4 * i + 1 ∨ j = 4 * i + 2 ∨ j = 4 * i + 3 := by omega
    rcases this with rfl | rfl | rfl | rfl <;> simp

theorem segI_lo {g : Nat → Int} {len i : Nat} (h : i + 1 < len) : segI g len (4 * i) = g (2 * i) ∧ segI g len (4 * i + 1) = g (2 * i + 1) ∧ segI g len (4 * i + 2) = g (2 * i + 2) ∧ segI g len (4 * i + 3) = g (2 * i + 3) := by
  have key : ∀ k, k < 4 → segI g len (4 * i + k) = g (2 * i + k) := by
    intro k hk
    have h1 : (4 * i + k) / 4 = i := by omega
    have h2 : (4 * i + k) % 4 = k := by omega
    unfold segI
    rw [h1, h2, if_pos h]
  exact ⟨key 0 (by decide), key 1 (by decide), key 2 (by decide), key 3 (by decide)⟩

theorem segI_hi {g : Nat → Int} {len i : Nat} (h : ¬ i + 1 < len) : segI g len (4 * i) = g (2 * i) ∧ segI g len (4 * i + 1) = g (2 * i + 1) ∧ segI g len (4 * i + 2) = g 0 ∧ segI g len (4 * i + 3) = g 1 := by
  have key : ∀ k, k < 4 → segI g len (4 * i + k) = if k < 2 then g (2 * i + k) else g (k - 2) := by
    intro k hk
    have h1 : (4 * i + k) / 4 = i := by omega
    have h2 : (4 * i + k) % 4 = k := by omega
    unfold segI
    rw [h1, h2, if_neg h]
  exact ⟨key 0 (by decide), key 1 (by decide), key 2 (by decide), key 3 (by decide)⟩

noncomputable def geoSegsC : List SV → RdM
  | [.slcc n len, bb] => .read n fun o0 => (match intsFrom .i64 o0.c with
    | some (m0, g) => (match bb.toB with
    | some b => .ret ⟨[.slcc 0 len, .bool b], [(0, ⟨false, 31, .ints .i64 m0 g, 0⟩)], .slcc 1 (nsegs len b g), [], [(1, ⟨true, 34, .ints .i64 (4 * nsegs len b g) (segI g len), 4⟩)], some (m0 = 2 * len ∧ len ≤ 1000000)⟩
    | none => .fail)
    | none => .fail)
  | _ => .fail
theorem vc_geoSegs (len : Nat) (b : Bool) (g : Nat → Int) : runA GS 1 [(5, segsL len b g)] [(4, segsK len b g)] (codeOf Try.f22) (init Try.f22.ntmps [.slcc 0 len, .bool b] [(0, ⟨false, 31, .ints .i64 (2 * len) g, 0⟩)] 1) (endK GS.E.T Try.f22.results.toList fun S v => postP 1 ⟨[.slcc 0 len, .bool b], [(0, ⟨false, 31, .ints .i64 (2 * len) g, 0⟩)], .slcc 1 (nsegs len b g), [], [(1, ⟨true, 34, .ints .i64 (4 * nsegs len b g) (segI g len), 4⟩)], some (2 * len = 2 * len ∧ len ≤ 1000000)⟩ S v) = (
  ((Decidable.decide ((↑len : Int) < (2 : Int)) = Bool.true →
        Go.Proofs.Try.Sx.nsegs len b g = (0 : Nat) ∧
          True ∧ (4 : Nat) * Go.Proofs.Try.Sx.nsegs len b g = (0 : Nat) ∧ True) ∧
      (Decidable.decide ((↑len : Int) < (2 : Int)) = Bool.false →
        (b = Bool.true →
            (Decidable.decide ((↑len : Int) < (3 : Int)) = Bool.true →
                Go.Proofs.Try.Sx.nsegs len b g = (0 : Nat) ∧
                  True ∧ (4 : Nat) * Go.Proofs.Try.Sx.nsegs len b g = (0 : Nat) ∧ True) ∧
              (Decidable.decide ((↑len : Int) < (3 : Int)) = Bool.false →
                ∃ (j : Nat),
                  ((2 : Nat) ≤ len ∧ (b = Bool.true → (3 : Nat) ≤ len)) ∧
                    ((True ∧ len = len) ∧ b = b ∧ True ∧ True) ∧
                      True ∧ ((2 : Nat) * len ≤ (2 : Nat) * len ∧ ∀ (i : Nat), i < (2 : Nat) * len → g i = g i) ∧ True)) ∧
          (b = Bool.false →
            ∃ (j : Nat),
              ((2 : Nat) ≤ len ∧ (b = Bool.true → (3 : Nat) ≤ len)) ∧
                ((True ∧ len = len) ∧ b = b ∧ True ∧ True) ∧
                  True ∧ ((2 : Nat) * len ≤ (2 : Nat) * len ∧ ∀ (i : Nat), i < (2 : Nat) * len → g i = g i) ∧ True))) ∧
    ∀ (j : Nat),
      (2 : Nat) ≤ len ∧ (b = Bool.true → (3 : Nat) ≤ len) →
        (∃ (i : Nat),
            i + (1 : Nat) ≤ len ∧
              ((True ∧ len = len) ∧
                  b = b ∧
                    i = (0 : Nat) ∧
                      Go.IntKind.wrap Go.IntKind.i64 ((↑len : Int) - (1 : Int)) = (↑len : Int) - (1 : Int) ∧
                        (0 : Int) = (↑i : Int) ∧ True) ∧
                True ∧
                  ((2 : Nat) * len ≤ (2 : Nat) * len ∧ ∀ (i : Nat), i < (2 : Nat) * len → g i = g i) ∧
                    True ∧ (4 : Nat) * i = (0 : Nat) ∧ True) ∧
          ∀ (i : Nat),
            i + (1 : Nat) ≤ len →
              (Decidable.decide ((↑i : Int) < (↑len : Int) - (1 : Int)) = Bool.true →
                  (((0 : Int) ≤ (↑i : Int) ∧ (↑i : Int) < (↑len : Int)) ∧ (1 : Nat) ≤ (2 : Nat) * len) ∧
                    (0 : Nat) + Int.toNat (↑i : Int) * (2 : Nat) + (2 : Nat) ≤ (2 : Nat) * len ∧
                      (((0 : Int) ≤ Go.IntKind.wrap Go.IntKind.i64 ((↑i : Int) + (1 : Int)) ∧
                            Go.IntKind.wrap Go.IntKind.i64 ((↑i : Int) + (1 : Int)) < (↑len : Int)) ∧
                          (1 : Nat) ≤ (2 : Nat) * len) ∧
                        (0 : Nat) + Int.toNat (Go.IntKind.wrap Go.IntKind.i64 ((↑i : Int) + (1 : Int))) * (2 : Nat) +
                              (2 : Nat) ≤
                            (2 : Nat) * len ∧
                          ((4 : Nat) * i = i * (4 : Nat) ∧
                              (i + (1 : Nat)) * (32 : Nat) ≤ (140737488355328 : Nat) ∧
                                i + (1 : Nat) ≤ (9223372036854775807 : Nat)) ∧
                            Bool.true = Bool.true ∧
                              ∃ (i' : Nat),
                                i' + (1 : Nat) ≤ len ∧
                                  len - i' < len - i ∧
                                    ((True ∧ len = len) ∧
                                        b = b ∧
                                          (True ∧ i + (1 : Nat) = i') ∧
                                            (↑len : Int) - (1 : Int) = (↑len : Int) - (1 : Int) ∧
                                              Go.IntKind.wrap Go.IntKind.i64 ((↑i : Int) + (1 : Int)) = (↑i' : Int) ∧
                                                True) ∧
                                      True ∧
                                        ((2 : Nat) * len ≤ (2 : Nat) * len ∧
                                            ∀ (i : Nat), i < (2 : Nat) * len → g i = g i) ∧
                                          True ∧
                                            ((34 : Nat) = (34 : Nat) ∧
                                                (4 : Nat) = (4 : Nat) ∧
                                                  (4 : Nat) * i' ≤
                                                      (4 : Nat) * i +
                                                        List.length
                                                          [g ((0 : Nat) + Int.toNat (↑i : Int) * (2 : Nat)),
                                                            g ((0 : Nat) + Int.toNat (↑i : Int) * (2 : Nat) + (1 : Nat)),
                                                            g
                                                              ((0 : Nat) +
                                                                Int.toNat
                                                                    (Go.IntKind.wrap Go.IntKind.i64
                                                                      ((↑i : Int) + (1 : Int))) *
                                                                  (2 : Nat)),
                                                            g
                                                              ((0 : Nat) +
                                                                  Int.toNat
                                                                      (Go.IntKind.wrap Go.IntKind.i64
                                                                        ((↑i : Int) + (1 : Int))) *
                                                                    (2 : Nat) +
                                                                (1 : Nat))] ∧
                                                    ∀ (i_1 : Nat),
                                                      i_1 < (4 : Nat) * i' →
                                                        Go.Sx.more ((4 : Nat) * i) (Go.Proofs.Try.Sx.segI g len)
                                                            [g ((0 : Nat) + Int.toNat (↑i : Int) * (2 : Nat)),
                                                              g
                                                                ((0 : Nat) + Int.toNat (↑i : Int) * (2 : Nat) +
                                                                  (1 : Nat)),
                                                              g
                                                                ((0 : Nat) +
                                                                  Int.toNat
                                                                      (Go.IntKind.wrap Go.IntKind.i64
                                                                        ((↑i : Int) + (1 : Int))) *
                                                                    (2 : Nat)),
                                                              g
                                                                ((0 : Nat) +
                                                                    Int.toNat
                                                                        (Go.IntKind.wrap Go.IntKind.i64
                                                                          ((↑i : Int) + (1 : Int))) *
                                                                      (2 : Nat) +
                                                                  (1 : Nat))]
                                                            (0 : Int) i_1 =
                                                          Go.Proofs.Try.Sx.segI g len i_1) ∧
                                              True) ∧
                (Decidable.decide ((↑i : Int) < (↑len : Int) - (1 : Int)) = Bool.false →
                  (((0 : Int) ≤ Go.IntKind.wrap Go.IntKind.i64 ((↑len : Int) - (1 : Int)) ∧
                        Go.IntKind.wrap Go.IntKind.i64 ((↑len : Int) - (1 : Int)) < (↑len : Int)) ∧
                      (1 : Nat) ≤ (2 : Nat) * len) ∧
                    (0 : Nat) + Int.toNat (Go.IntKind.wrap Go.IntKind.i64 ((↑len : Int) - (1 : Int))) * (2 : Nat) +
                          (2 : Nat) ≤
                        (2 : Nat) * len ∧
                      (b = Bool.true →
                          b = Bool.true ∧
                            (((0 : Int) ≤ (0 : Int) ∧ (0 : Int) < (↑len : Int)) ∧ (1 : Nat) ≤ (2 : Nat) * len) ∧
                              (2 : Nat) ≤ (2 : Nat) * len ∧
                                Bool.true = Bool.true ∧
                                  ((!(g
                                                ((0 : Nat) +
                                                  Int.toNat (Go.IntKind.wrap Go.IntKind.i64 ((↑len : Int) - (1 : Int))) *
                                                    (2 : Nat)) ==
                                              g (0 : Nat) &&
                                            (g
                                                  ((0 : Nat) +
                                                      Int.toNat
                                                          (Go.IntKind.wrap Go.IntKind.i64 ((↑len : Int) - (1 : Int))) *
                                                        (2 : Nat) +
                                                    (1 : Nat)) ==
                                                g (1 : Nat) &&
                                              Bool.true))) =
                                        Bool.true →
                                      (((0 : Int) ≤ (0 : Int) ∧ (0 : Int) < (↑len : Int)) ∧ (1 : Nat) ≤ (2 : Nat) * len) ∧
                                        (2 : Nat) ≤ (2 : Nat) * len ∧
                                          ((4 : Nat) * i = i * (4 : Nat) ∧
                                              (i + (1 : Nat)) * (32 : Nat) ≤ (140737488355328 : Nat) ∧
                                                i + (1 : Nat) ≤ (9223372036854775807 : Nat)) ∧
                                            Bool.true = Bool.true ∧
                                              (True ∧ i + (1 : Nat) = Go.Proofs.Try.Sx.nsegs len b g) ∧
                                                True ∧
                                                  ((34 : Nat) = (34 : Nat) ∧
                                                      (4 : Nat) = (4 : Nat) ∧
                                                        (4 : Nat) * Go.Proofs.Try.Sx.nsegs len b g ≤
                                                            (4 : Nat) * i +
                                                              List.length
                                                                [g
                                                                    ((0 : Nat) +
                                                                      Int.toNat
                                                                          (Go.IntKind.wrap Go.IntKind.i64
                                                                            ((↑len : Int) - (1 : Int))) *
                                                                        (2 : Nat)),
                                                                  g
                                                                    ((0 : Nat) +
                                                                        Int.toNat
                                                                            (Go.IntKind.wrap Go.IntKind.i64
                                                                              ((↑len : Int) - (1 : Int))) *
                                                                          (2 : Nat) +
                                                                      (1 : Nat)),
                                                                  g (0 : Nat), g (1 : Nat)] ∧
                                                          ∀ (i_1 : Nat),
                                                            i_1 < (4 : Nat) * Go.Proofs.Try.Sx.nsegs len b g →
                                                              Go.Sx.more ((4 : Nat) * i) (Go.Proofs.Try.Sx.segI g len)
                                                                  [g
                                                                      ((0 : Nat) +
                                                                        Int.toNat
                                                                            (Go.IntKind.wrap Go.IntKind.i64
                                                                              ((↑len : Int) - (1 : Int))) *
                                                                          (2 : Nat)),
                                                                    g
                                                                      ((0 : Nat) +
                                                                          Int.toNat
                                                                              (Go.IntKind.wrap Go.IntKind.i64
                                                                                ((↑len : Int) - (1 : Int))) *
                                                                            (2 : Nat) +
                                                                        (1 : Nat)),
                                                                    g (0 : Nat), g (1 : Nat)]
                                                                  (0 : Int) i_1 =
                                                                Go.Proofs.Try.Sx.segI g len i_1) ∧
                                                    True) ∧
                                    ((!(g
                                                ((0 : Nat) +
                                                  Int.toNat (Go.IntKind.wrap Go.IntKind.i64 ((↑len : Int) - (1 : Int))) *
                                                    (2 : Nat)) ==
                                              g (0 : Nat) &&
                                            (g
                                                  ((0 : Nat) +
                                                      Int.toNat
                                                          (Go.IntKind.wrap Go.IntKind.i64 ((↑len : Int) - (1 : Int))) *
                                                        (2 : Nat) +
                                                    (1 : Nat)) ==
                                                g (1 : Nat) &&
                                              Bool.true))) =
                                        Bool.false →
                                      (True ∧ i = Go.Proofs.Try.Sx.nsegs len b g) ∧
                                        True ∧
                                          ((34 : Nat) = (34 : Nat) ∧
                                              (4 : Nat) = (4 : Nat) ∧
                                                (4 : Nat) * Go.Proofs.Try.Sx.nsegs len b g ≤ (4 : Nat) * i ∧
                                                  ∀ (i : Nat),
                                                    i < (4 : Nat) * Go.Proofs.Try.Sx.nsegs len b g →
                                                      Go.Proofs.Try.Sx.segI g len i = Go.Proofs.Try.Sx.segI g len i) ∧
                                            True)) ∧
                        (b = Bool.false →
                          b = Bool.false ∧
                            Bool.true = Bool.true ∧
                              (True ∧ i = Go.Proofs.Try.Sx.nsegs len b g) ∧
                                True ∧
                                  ((34 : Nat) = (34 : Nat) ∧
                                      (4 : Nat) = (4 : Nat) ∧
                                        (4 : Nat) * Go.Proofs.Try.Sx.nsegs len b g ≤ (4 : Nat) * i ∧
                                          ∀ (i : Nat),
                                            i < (4 : Nat) * Go.Proofs.Try.Sx.nsegs len b g →
                                              Go.Proofs.Try.Sx.segI g len i = Go.Proofs.Try.Sx.segI g len i) ∧
                                    True))) := by kernel_rfl
theorem geoSegs : ConOk Try.prog 22 (conR geoSegsC) := by
  refine con_of_vc gS Try.func22 rfl (by kernel_rfl) fun args => ?_
  unfold geoSegsC
  split
  · rename_i n len bb
    intro o0
    show RdM.All _ (match intsFrom .i64 o0.c with | some (m, g) => _ | none => _) _
    split
    · rename_i m0 g hm0
      show RdM.All _ (match bb.toB with | some b => _ | none => _) _
      split
      · rename_i b hb
        intro ho
        replace ho : m0 = 2 * len ∧ len ≤ 1000000 := ho
        obtain ⟨hsz0, ho⟩ := ho
        subst hsz0
        refine ⟨?_, _, _, (vc_geoSegs len b g).mpr ?_⟩
        · refine okFlag_mk rfl ⟨?_, ⟨trivial, (contR_ints hm0).1, trivial⟩⟩
          simp [eqvRL, eqvR, kEq_self, fkEq_self, sgSig, fsts, nth, sameN_self, toB_eqvR hb]
        · have hwl : IntKind.i64.wrap ((len : Int) - 1) = (len : Int) - 1 := wrap64 (by omega) (by omega)
          refine ⟨⟨fun h => ?_, fun h => ⟨fun hb => ⟨fun h3 => ?_, fun h3 => ?_⟩, fun hb => ?_⟩⟩, fun _ hl => ⟨⟨0, by omega, by simp [hwl]⟩, fun i hi => ⟨fun h => ?_, fun h => ?_⟩⟩⟩
          · have h := of_decide_eq_true h
            have : nsegs len b g = 0 := if_pos (.inl (by omega))
            simp [this]
          · have h3 := of_decide_eq_true h3
            have : nsegs len b g = 0 := if_pos (.inr ⟨hb, by omega⟩)
            simp [this]
          · have h3 := of_decide_eq_false h3
            exact ⟨0, ⟨by omega, fun _ => by omega⟩, by simp⟩
          · have h := of_decide_eq_false h
            exact ⟨0, ⟨by omega, fun hh => by simp [hb] at hh⟩, by simp⟩
          · have h := of_decide_eq_true h
            have e : 0 + (i : Int).toNat * 2 = 2 * i := by omega
            have hw : IntKind.i64.wrap ((i : Int) + 1) = ((i + 1 : Nat) : Int) := by rw [wrap64 (by omega) (by omega)]; omega
            have e1 : 0 + ((i + 1 : Nat) : Int).toNat * 2 = 2 * i + 2 := by omega
            obtain ⟨s0, s1, s2, s3⟩ := segI_lo (g := g) (len := len) (i := i) (by omega)
            rw [hw, e, e1]
            refine ⟨by omega, by omega, by omega, by omega, by omega, rfl, i + 1, by omega, by omega, by simp, trivial, by simp, trivial, ⟨rfl, rfl, ?_, more_four s0.symm s1.symm s2.symm s3.symm⟩, trivial⟩
            show 4 * (i + 1) ≤ 4 * i + 4
            omega
          · have h := of_decide_eq_false h
            have hil : i = len - 1 := by omega
            subst hil
            have e : 0 + ((len : Int) - 1).toNat * 2 = 2 * len - 2 := by omega
            rw [hwl, e]
            have hn2 : ¬ (len < 2 ∨ b = true ∧ len < 3) := by
              intro hh
              rcases hh with hh | ⟨hh, hh'⟩
              · omega
              · have := hl.2 hh; omega
            have e1 : 2 * len - 2 + 1 = 2 * len - 1 := by omega
            rw [e1]
            refine ⟨by omega, by omega, fun hb => ⟨hb, by omega, by omega, rfl, fun hne => ?_, fun heq => ?_⟩, fun hb => ?_⟩
            · have hns : nsegs len b g = len := by
                unfold nsegs
                rw [if_neg hn2, if_pos ⟨hb, fun hh => by simp [hh.1, hh.2] at hne⟩]
              obtain ⟨s0, s1, s2, s3⟩ := segI_hi (g := g) (len := len) (i := len - 1) (by omega)
              have e2 : 2 * (len - 1) = 2 * len - 2 := by omega
              rw [e2] at s0 s1
              rw [e1] at s1
              rw [hns]
              refine ⟨by omega, by omega, by omega, rfl, ⟨trivial, by omega⟩, trivial, ⟨rfl, rfl, ?_, ?_⟩, trivial⟩
              · show 4 * len ≤ 4 * (len - 1) + 4
                omega
              · have := more_four s0.symm s1.symm s2.symm s3.symm
                rw [show len - 1 + 1 = len by omega] at this
                exact this
            · have hns : nsegs len b g = len - 1 := by
                unfold nsegs
                rw [if_neg hn2, if_neg]
                simp at heq
                exact fun hh => hh.2 ⟨heq.1, heq.2⟩
              simp [hns]
            · have hns : nsegs len b g = len - 1 := by
                unfold nsegs
                rw [if_neg hn2, if_neg]
                exact fun hh => by simp [hb] at hh
              simp [hns]
              exact hb
      · trivial
    · trivial
  · trivial

end Go.Proofs.Try.Sx
