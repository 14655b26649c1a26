/- Segment.IntersectsSegment. -/
import Derived.Test.YtcjhgngdhdcpeaaRect2
import Derived.Test.YtcjhgngdhdcpeaaFl10
namespace Go.Proofs.Try.Sx
open Go Go.Sx Go.Proofs Go.Fl Go.Geo
set_option maxRecDepth 100000

def eqZeroF : PF := fun
  | [.flt .f64 x] => some (.bool (!(fLt .f64 x 0 || fGt .f64 x 0)), none)
  | _ => none
theorem vc_eqZero (R : SV → Prop) (x : Nat) : runA G0 0 [] [] (codeOf Try.f58) (init Try.f58.ntmps [.flt .f64 x] [] 0) (endK G0.E.T Try.f58.results.toList fun _ v => R v) = (
  (Go.Sx.fLt Go.FloatKind.f64 x (0 : Nat) = Bool.true → R Go.Sx.SV.ff) ∧
    (Go.Sx.fLt Go.FloatKind.f64 x (0 : Nat) = Bool.false → R (Go.Sx.SV.bool !Go.Sx.fGt Go.FloatKind.f64 x (0 : Nat)))) := by kernel_rfl
theorem eqZero : PureOk Try.prog 58 eqZeroF := by
  refine pure_of_vc g0 Try.func58 rfl (by kernel_rfl) ?_
  intro args v p h hp
  unfold eqZeroF at h
  split at h
  · rename_i x
    injection h with h; injection h with h1 h2; subst h1; subst h2
    clear hp
    refine ⟨rfl, _, _, (vc_eqZero _ x).mpr ?_⟩
    simp only [eqv]
    grind
  · cases h

noncomputable def GIS : Ctx := ⟨⟨tys, [(61, [true, true])]⟩, [(29, pureCon rayF), (58, pureCon eqZeroF)]⟩
theorem gIS : CtxOk Try.prog GIS := ⟨⟨tysOk, FlatsOk.cons flat61 FlatsOk.nil⟩, GamOk.cons (.pure ray) (GamOk.cons (.pure eqZero) GamOk.nil), by kernel_rfl⟩

abbrev D (x y : Nat) : Nat := fop .sub .f64 x y
abbrev M (x y : Nat) : Nat := fop .mul .f64 x y
abbrev CR (x y z w : Nat) : Nat := D (M x w) (M y z)

def isH (ax ay bx by' cx cy dx dy : Nat) : Heap := [(0, ⟨true, 64, .cells [.flt .f64 ax, .flt .f64 ay, .flt .f64 bx, .flt .f64 by'], 0⟩), (1, ⟨true, 64, .cells [.flt .f64 cx, .flt .f64 cy, .flt .f64 dx, .flt .f64 dy], 0⟩), (2, ⟨true, 61, .cells [.flt .f64 ax, .flt .f64 ay], 0⟩), (3, ⟨true, 61, .cells [.flt .f64 bx, .flt .f64 by'], 0⟩), (4, ⟨true, 61, .cells [.flt .f64 cx, .flt .f64 cy], 0⟩), (5, ⟨true, 61, .cells [.flt .f64 dx, .flt .f64 dy], 0⟩)]
def isS : Slots := [(2, .ptr 0 0), (3, .ptr 1 0), (5, .ptr 2 0), (6, .ptr 3 0), (7, .ptr 4 0), (8, .ptr 5 0)]
def isF (ax ay bx by' cx cy dx dy : Nat) (p : Prop) : Fam := ⟨Nat, fun _ => ⟨300, isS, isH ax ay bx by' cx cy dx dy, 6⟩, fun _ => p, fun _ => 0⟩
def isF2 (ax ay bx by' cx cy dx dy : Nat) (p : Prop) : Fam := ⟨Nat, fun _ => ⟨300, (9, .flt .f64 (D cx ax)) :: (10, .flt .f64 (D cy ay)) :: (11, .flt .f64 (D bx ax)) :: (12, .flt .f64 (D by' ay)) :: (13, .flt .f64 (CR (D cx ax) (D cy ay) (D bx ax) (D by' ay))) :: isS, isH ax ay bx by' cx cy dx dy, 6⟩, fun _ => p, fun _ => 0⟩
def isF3 (ax ay bx by' cx cy dx dy : Nat) (p : Prop) : Fam := ⟨Nat, fun _ => ⟨300, (13, .flt .f64 (CR (D cx ax) (D cy ay) (D bx ax) (D by' ay))) :: (16, .flt .f64 (CR (D cx ax) (D cy ay) (D dx cx) (D dy cy))) :: (17, .flt .f64 (CR (D bx ax) (D by' ay) (D dx cx) (D dy cy))) :: isS, isH ax ay bx by' cx cy dx dy, 6⟩, fun _ => p, fun _ => 0⟩

def yMeet (a2 b2 c2 d2 : Int) : Prop := ¬ (max a2 b2 < min c2 d2 ∨ max c2 d2 < min a2 b2)
def noEnds (a1 a2 b1 b2 c1 c2 d1 d2 : Int) : Prop := ¬ ((a1 = c1 ∧ a2 = c2) ∨ (a1 = d1 ∧ a2 = d2) ∨ (b1 = c1 ∧ b2 = c2) ∨ (b1 = d1 ∧ b2 = d2))
def xp (x y z w : Int) : Int := x * w - y * z
def half (a b c : Int) : Prop := (c ≤ a ∧ b < c) ∨ (a < c ∧ c ≤ b)
/-- What the code says, by whole numbers. -/
def Isec (a1 a2 b1 b2 c1 c2 d1 d2 : Int) : Prop :=
  yMeet a2 b2 c2 d2 ∧ yMeet a1 b1 c1 d1 ∧ (¬ noEnds a1 a2 b1 b2 c1 c2 d1 d2 ∨
    (xp (c1 - a1) (c2 - a2) (b1 - a1) (b2 - a2) = 0 ∧ (half a1 b1 c1 ∨ half a2 b2 c2 ∨ On a1 a2 b1 b2 c1 c2 ∨ On a1 a2 b1 b2 d1 d2)) ∨
    (xp (c1 - a1) (c2 - a2) (b1 - a1) (b2 - a2) ≠ 0 ∧ xp (b1 - a1) (b2 - a2) (d1 - c1) (d2 - c2) ≠ 0 ∧
      0 ≤ xp (c1 - a1) (c2 - a2) (d1 - c1) (d2 - c2) * xp (b1 - a1) (b2 - a2) (d1 - c1) (d2 - c2) ∧ (xp (c1 - a1) (c2 - a2) (d1 - c1) (d2 - c2)).natAbs ≤ (xp (b1 - a1) (b2 - a2) (d1 - c1) (d2 - c2)).natAbs ∧
      0 ≤ xp (c1 - a1) (c2 - a2) (b1 - a1) (b2 - a2) * xp (b1 - a1) (b2 - a2) (d1 - c1) (d2 - c2) ∧ (xp (c1 - a1) (c2 - a2) (b1 - a1) (b2 - a2)).natAbs ≤ (xp (b1 - a1) (b2 - a2) (d1 - c1) (d2 - c2)).natAbs))
instance (a b c d : Int) : Decidable (yMeet a b c d) := by unfold yMeet; infer_instance
instance (a b c d e f g h : Int) : Decidable (noEnds a b c d e f g h) := by unfold noEnds; infer_instance
instance (a b c : Int) : Decidable (half a b c) := by unfold half; infer_instance
instance (a b c d e f g h : Int) : Decidable (Isec a b c d e f g h) := by unfold Isec; infer_instance

structure P8 (ax ay bx by' cx cy dx dy : Nat) (a1 a2 b1 b2 c1 c2 d1 d2 : Int) : Prop where
  ax : FI ax a1
  ay : FI ay a2
  bx : FI bx b1
  by' : FI by' b2
  cx : FI cx c1
  cy : FI cy c2
  dx : FI dx d1
  dy : FI dy d2
  s : (small a1 ∧ small a2 ∧ small b1 ∧ small b2) ∧ (small c1 ∧ small c2 ∧ small d1 ∧ small d2)

theorem vc_isec (R : SV → Prop) (P1 P2 P3 P4 P5 : Prop) (ax ay bx by' cx cy dx dy : Nat) : runA GIS 0 [] [(2, isF ax ay bx by' cx cy dx dy True), (13, isF ax ay bx by' cx cy dx dy P1), (24, isF ax ay bx by' cx cy dx dy P2), (26, isF ax ay bx by' cx cy dx dy P3), (29, isF2 ax ay bx by' cx cy dx dy P3), (33, isF2 ax ay bx by' cx cy dx dy P4), (36, isF3 ax ay bx by' cx cy dx dy P4), (38, isF3 ax ay bx by' cx cy dx dy P5)] (codeOf Try.f51) (init 300 [.agg [.flt .f64 ax, .flt .f64 ay, .flt .f64 bx, .flt .f64 by'], .agg [.flt .f64 cx, .flt .f64 cy, .flt .f64 dx, .flt .f64 dy]] [] 0) (endK GIS.E.T Try.f51.results.toList fun _ v => R v) = (
  (Bool.true = Bool.true ∧
      ∃ (j : Nat),
        True ∧
          ((True ∧ (0 : Nat) = (0 : Nat)) ∧
              (True ∧ (0 : Nat) = (0 : Nat)) ∧
                (True ∧ (0 : Nat) = (0 : Nat)) ∧
                  (True ∧ (0 : Nat) = (0 : Nat)) ∧
                    (True ∧ (0 : Nat) = (0 : Nat)) ∧ (True ∧ (0 : Nat) = (0 : Nat)) ∧ True) ∧
            True ∧
              ((64 : Nat) = (64 : Nat) ∧ (0 : Nat) = (0 : Nat) ∧ ax = ax ∧ ay = ay ∧ bx = bx ∧ by' = by' ∧ True) ∧
                True ∧
                  ((64 : Nat) = (64 : Nat) ∧ (0 : Nat) = (0 : Nat) ∧ cx = cx ∧ cy = cy ∧ dx = dx ∧ dy = dy ∧ True) ∧
                    True ∧
                      ((61 : Nat) = (61 : Nat) ∧ (0 : Nat) = (0 : Nat) ∧ ax = ax ∧ ay = ay ∧ True) ∧
                        True ∧
                          ((61 : Nat) = (61 : Nat) ∧ (0 : Nat) = (0 : Nat) ∧ bx = bx ∧ by' = by' ∧ True) ∧
                            True ∧
                              ((61 : Nat) = (61 : Nat) ∧ (0 : Nat) = (0 : Nat) ∧ cx = cx ∧ cy = cy ∧ True) ∧
                                True ∧
                                  ((61 : Nat) = (61 : Nat) ∧ (0 : Nat) = (0 : Nat) ∧ dx = dx ∧ dy = dy ∧ True) ∧ True) ∧
    ∀ (j : Nat),
      True →
        ((Go.Sx.fGt Go.FloatKind.f64 ay by' = Bool.true →
              (Go.Sx.fGt Go.FloatKind.f64 cy dy = Bool.true →
                  (Go.Sx.fGt Go.FloatKind.f64 by' cy = Bool.true → R Go.Sx.SV.ff) ∧
                    (Go.Sx.fGt Go.FloatKind.f64 by' cy = Bool.false →
                      (Go.Sx.fLt Go.FloatKind.f64 ay dy = Bool.true → R Go.Sx.SV.ff) ∧
                        (Go.Sx.fLt Go.FloatKind.f64 ay dy = Bool.false →
                          ∃ (j : Nat),
                            P1 ∧
                              ((True ∧ (0 : Nat) = (0 : Nat)) ∧
                                  (True ∧ (0 : Nat) = (0 : Nat)) ∧
                                    (True ∧ (0 : Nat) = (0 : Nat)) ∧
                                      (True ∧ (0 : Nat) = (0 : Nat)) ∧
                                        (True ∧ (0 : Nat) = (0 : Nat)) ∧ (True ∧ (0 : Nat) = (0 : Nat)) ∧ True) ∧
                                True ∧
                                  ((64 : Nat) = (64 : Nat) ∧
                                      (0 : Nat) = (0 : Nat) ∧ ax = ax ∧ ay = ay ∧ bx = bx ∧ by' = by' ∧ True) ∧
                                    True ∧
                                      ((64 : Nat) = (64 : Nat) ∧
                                          (0 : Nat) = (0 : Nat) ∧ cx = cx ∧ cy = cy ∧ dx = dx ∧ dy = dy ∧ True) ∧
                                        True ∧
                                          ((61 : Nat) = (61 : Nat) ∧ (0 : Nat) = (0 : Nat) ∧ ax = ax ∧ ay = ay ∧ True) ∧
                                            True ∧
                                              ((61 : Nat) = (61 : Nat) ∧
                                                  (0 : Nat) = (0 : Nat) ∧ bx = bx ∧ by' = by' ∧ True) ∧
                                                True ∧
                                                  ((61 : Nat) = (61 : Nat) ∧
                                                      (0 : Nat) = (0 : Nat) ∧ cx = cx ∧ cy = cy ∧ True) ∧
                                                    True ∧
                                                      ((61 : Nat) = (61 : Nat) ∧
                                                          (0 : Nat) = (0 : Nat) ∧ dx = dx ∧ dy = dy ∧ True) ∧
                                                        True))) ∧
                (Go.Sx.fGt Go.FloatKind.f64 cy dy = Bool.false →
                  (Go.Sx.fGt Go.FloatKind.f64 by' dy = Bool.true → R Go.Sx.SV.ff) ∧
                    (Go.Sx.fGt Go.FloatKind.f64 by' dy = Bool.false →
                      (Go.Sx.fLt Go.FloatKind.f64 ay cy = Bool.true → R Go.Sx.SV.ff) ∧
                        (Go.Sx.fLt Go.FloatKind.f64 ay cy = Bool.false →
                          ∃ (j : Nat),
                            P1 ∧
                              ((True ∧ (0 : Nat) = (0 : Nat)) ∧
                                  (True ∧ (0 : Nat) = (0 : Nat)) ∧
                                    (True ∧ (0 : Nat) = (0 : Nat)) ∧
                                      (True ∧ (0 : Nat) = (0 : Nat)) ∧
                                        (True ∧ (0 : Nat) = (0 : Nat)) ∧ (True ∧ (0 : Nat) = (0 : Nat)) ∧ True) ∧
                                True ∧
                                  ((64 : Nat) = (64 : Nat) ∧
                                      (0 : Nat) = (0 : Nat) ∧ ax = ax ∧ ay = ay ∧ bx = bx ∧ by' = by' ∧ True) ∧
                                    True ∧
                                      ((64 : Nat) = (64 : Nat) ∧
                                          (0 : Nat) = (0 : Nat) ∧ cx = cx ∧ cy = cy ∧ dx = dx ∧ dy = dy ∧ True) ∧
                                        True ∧
                                          ((61 : Nat) = (61 : Nat) ∧ (0 : Nat) = (0 : Nat) ∧ ax = ax ∧ ay = ay ∧ True) ∧
                                            True ∧
                                              ((61 : Nat) = (61 : Nat) ∧
                                                  (0 : Nat) = (0 : Nat) ∧ bx = bx ∧ by' = by' ∧ True) ∧
                                                True ∧
                                                  ((61 : Nat) = (61 : Nat) ∧
                                                      (0 : Nat) = (0 : Nat) ∧ cx = cx ∧ cy = cy ∧ True) ∧
                                                    True ∧
                                                      ((61 : Nat) = (61 : Nat) ∧
                                                          (0 : Nat) = (0 : Nat) ∧ dx = dx ∧ dy = dy ∧ True) ∧
                                                        True)))) ∧
            (Go.Sx.fGt Go.FloatKind.f64 ay by' = Bool.false →
              (Go.Sx.fGt Go.FloatKind.f64 cy dy = Bool.true →
                  (Go.Sx.fGt Go.FloatKind.f64 ay cy = Bool.true → R Go.Sx.SV.ff) ∧
                    (Go.Sx.fGt Go.FloatKind.f64 ay cy = Bool.false →
                      (Go.Sx.fLt Go.FloatKind.f64 by' dy = Bool.true → R Go.Sx.SV.ff) ∧
                        (Go.Sx.fLt Go.FloatKind.f64 by' dy = Bool.false →
                          ∃ (j : Nat),
                            P1 ∧
                              ((True ∧ (0 : Nat) = (0 : Nat)) ∧
                                  (True ∧ (0 : Nat) = (0 : Nat)) ∧
                                    (True ∧ (0 : Nat) = (0 : Nat)) ∧
                                      (True ∧ (0 : Nat) = (0 : Nat)) ∧
                                        (True ∧ (0 : Nat) = (0 : Nat)) ∧ (True ∧ (0 : Nat) = (0 : Nat)) ∧ True) ∧
                                True ∧
                                  ((64 : Nat) = (64 : Nat) ∧
                                      (0 : Nat) = (0 : Nat) ∧ ax = ax ∧ ay = ay ∧ bx = bx ∧ by' = by' ∧ True) ∧
                                    True ∧
                                      ((64 : Nat) = (64 : Nat) ∧
                                          (0 : Nat) = (0 : Nat) ∧ cx = cx ∧ cy = cy ∧ dx = dx ∧ dy = dy ∧ True) ∧
                                        True ∧
                                          ((61 : Nat) = (61 : Nat) ∧ (0 : Nat) = (0 : Nat) ∧ ax = ax ∧ ay = ay ∧ True) ∧
                                            True ∧
                                              ((61 : Nat) = (61 : Nat) ∧
                                                  (0 : Nat) = (0 : Nat) ∧ bx = bx ∧ by' = by' ∧ True) ∧
                                                True ∧
                                                  ((61 : Nat) = (61 : Nat) ∧
                                                      (0 : Nat) = (0 : Nat) ∧ cx = cx ∧ cy = cy ∧ True) ∧
                                                    True ∧
                                                      ((61 : Nat) = (61 : Nat) ∧
                                                          (0 : Nat) = (0 : Nat) ∧ dx = dx ∧ dy = dy ∧ True) ∧
                                                        True))) ∧
                (Go.Sx.fGt Go.FloatKind.f64 cy dy = Bool.false →
                  (Go.Sx.fGt Go.FloatKind.f64 ay dy = Bool.true → R Go.Sx.SV.ff) ∧
                    (Go.Sx.fGt Go.FloatKind.f64 ay dy = Bool.false →
                      (Go.Sx.fLt Go.FloatKind.f64 by' cy = Bool.true → R Go.Sx.SV.ff) ∧
                        (Go.Sx.fLt Go.FloatKind.f64 by' cy = Bool.false →
                          ∃ (j : Nat),
                            P1 ∧
                              ((True ∧ (0 : Nat) = (0 : Nat)) ∧
                                  (True ∧ (0 : Nat) = (0 : Nat)) ∧
                                    (True ∧ (0 : Nat) = (0 : Nat)) ∧
                                      (True ∧ (0 : Nat) = (0 : Nat)) ∧
                                        (True ∧ (0 : Nat) = (0 : Nat)) ∧ (True ∧ (0 : Nat) = (0 : Nat)) ∧ True) ∧
                                True ∧
                                  ((64 : Nat) = (64 : Nat) ∧
                                      (0 : Nat) = (0 : Nat) ∧ ax = ax ∧ ay = ay ∧ bx = bx ∧ by' = by' ∧ True) ∧
                                    True ∧
                                      ((64 : Nat) = (64 : Nat) ∧
                                          (0 : Nat) = (0 : Nat) ∧ cx = cx ∧ cy = cy ∧ dx = dx ∧ dy = dy ∧ True) ∧
                                        True ∧
                                          ((61 : Nat) = (61 : Nat) ∧ (0 : Nat) = (0 : Nat) ∧ ax = ax ∧ ay = ay ∧ True) ∧
                                            True ∧
                                              ((61 : Nat) = (61 : Nat) ∧
                                                  (0 : Nat) = (0 : Nat) ∧ bx = bx ∧ by' = by' ∧ True) ∧
                                                True ∧
                                                  ((61 : Nat) = (61 : Nat) ∧
                                                      (0 : Nat) = (0 : Nat) ∧ cx = cx ∧ cy = cy ∧ True) ∧
                                                    True ∧
                                                      ((61 : Nat) = (61 : Nat) ∧
                                                          (0 : Nat) = (0 : Nat) ∧ dx = dx ∧ dy = dy ∧ True) ∧
                                                        True))))) ∧
          ∀ (j : Nat),
            P1 →
              ((Go.Sx.fGt Go.FloatKind.f64 ax bx = Bool.true →
                    (Go.Sx.fGt Go.FloatKind.f64 cx dx = Bool.true →
                        (Go.Sx.fGt Go.FloatKind.f64 bx cx = Bool.true → R Go.Sx.SV.ff) ∧
                          (Go.Sx.fGt Go.FloatKind.f64 bx cx = Bool.false →
                            (Go.Sx.fLt Go.FloatKind.f64 ax dx = Bool.true → R Go.Sx.SV.ff) ∧
                              (Go.Sx.fLt Go.FloatKind.f64 ax dx = Bool.false →
                                ∃ (j : Nat),
                                  P2 ∧
                                    ((True ∧ (0 : Nat) = (0 : Nat)) ∧
                                        (True ∧ (0 : Nat) = (0 : Nat)) ∧
                                          (True ∧ (0 : Nat) = (0 : Nat)) ∧
                                            (True ∧ (0 : Nat) = (0 : Nat)) ∧
                                              (True ∧ (0 : Nat) = (0 : Nat)) ∧ (True ∧ (0 : Nat) = (0 : Nat)) ∧ True) ∧
                                      True ∧
                                        ((64 : Nat) = (64 : Nat) ∧
                                            (0 : Nat) = (0 : Nat) ∧ ax = ax ∧ ay = ay ∧ bx = bx ∧ by' = by' ∧ True) ∧
                                          True ∧
                                            ((64 : Nat) = (64 : Nat) ∧
                                                (0 : Nat) = (0 : Nat) ∧ cx = cx ∧ cy = cy ∧ dx = dx ∧ dy = dy ∧ True) ∧
                                              True ∧
                                                ((61 : Nat) = (61 : Nat) ∧
                                                    (0 : Nat) = (0 : Nat) ∧ ax = ax ∧ ay = ay ∧ True) ∧
                                                  True ∧
                                                    ((61 : Nat) = (61 : Nat) ∧
                                                        (0 : Nat) = (0 : Nat) ∧ bx = bx ∧ by' = by' ∧ True) ∧
                                                      True ∧
                                                        ((61 : Nat) = (61 : Nat) ∧
                                                            (0 : Nat) = (0 : Nat) ∧ cx = cx ∧ cy = cy ∧ True) ∧
                                                          True ∧
                                                            ((61 : Nat) = (61 : Nat) ∧
                                                                (0 : Nat) = (0 : Nat) ∧ dx = dx ∧ dy = dy ∧ True) ∧
                                                              True))) ∧
                      (Go.Sx.fGt Go.FloatKind.f64 cx dx = Bool.false →
                        (Go.Sx.fGt Go.FloatKind.f64 bx dx = Bool.true → R Go.Sx.SV.ff) ∧
                          (Go.Sx.fGt Go.FloatKind.f64 bx dx = Bool.false →
                            (Go.Sx.fLt Go.FloatKind.f64 ax cx = Bool.true → R Go.Sx.SV.ff) ∧
                              (Go.Sx.fLt Go.FloatKind.f64 ax cx = Bool.false →
                                ∃ (j : Nat),
                                  P2 ∧
                                    ((True ∧ (0 : Nat) = (0 : Nat)) ∧
                                        (True ∧ (0 : Nat) = (0 : Nat)) ∧
                                          (True ∧ (0 : Nat) = (0 : Nat)) ∧
                                            (True ∧ (0 : Nat) = (0 : Nat)) ∧
                                              (True ∧ (0 : Nat) = (0 : Nat)) ∧ (True ∧ (0 : Nat) = (0 : Nat)) ∧ True) ∧
                                      True ∧
                                        ((64 : Nat) = (64 : Nat) ∧
                                            (0 : Nat) = (0 : Nat) ∧ ax = ax ∧ ay = ay ∧ bx = bx ∧ by' = by' ∧ True) ∧
                                          True ∧
                                            ((64 : Nat) = (64 : Nat) ∧
                                                (0 : Nat) = (0 : Nat) ∧ cx = cx ∧ cy = cy ∧ dx = dx ∧ dy = dy ∧ True) ∧
                                              True ∧
                                                ((61 : Nat) = (61 : Nat) ∧
                                                    (0 : Nat) = (0 : Nat) ∧ ax = ax ∧ ay = ay ∧ True) ∧
                                                  True ∧
                                                    ((61 : Nat) = (61 : Nat) ∧
                                                        (0 : Nat) = (0 : Nat) ∧ bx = bx ∧ by' = by' ∧ True) ∧
                                                      True ∧
                                                        ((61 : Nat) = (61 : Nat) ∧
                                                            (0 : Nat) = (0 : Nat) ∧ cx = cx ∧ cy = cy ∧ True) ∧
                                                          True ∧
                                                            ((61 : Nat) = (61 : Nat) ∧
                                                                (0 : Nat) = (0 : Nat) ∧ dx = dx ∧ dy = dy ∧ True) ∧
                                                              True)))) ∧
                  (Go.Sx.fGt Go.FloatKind.f64 ax bx = Bool.false →
                    (Go.Sx.fGt Go.FloatKind.f64 cx dx = Bool.true →
                        (Go.Sx.fGt Go.FloatKind.f64 ax cx = Bool.true → R Go.Sx.SV.ff) ∧
                          (Go.Sx.fGt Go.FloatKind.f64 ax cx = Bool.false →
                            (Go.Sx.fLt Go.FloatKind.f64 bx dx = Bool.true → R Go.Sx.SV.ff) ∧
                              (Go.Sx.fLt Go.FloatKind.f64 bx dx = Bool.false →
                                ∃ (j : Nat),
                                  P2 ∧
                                    ((True ∧ (0 : Nat) = (0 : Nat)) ∧
                                        (True ∧ (0 : Nat) = (0 : Nat)) ∧
                                          (True ∧ (0 : Nat) = (0 : Nat)) ∧
                                            (True ∧ (0 : Nat) = (0 : Nat)) ∧
                                              (True ∧ (0 : Nat) = (0 : Nat)) ∧ (True ∧ (0 : Nat) = (0 : Nat)) ∧ True) ∧
                                      True ∧
                                        ((64 : Nat) = (64 : Nat) ∧
                                            (0 : Nat) = (0 : Nat) ∧ ax = ax ∧ ay = ay ∧ bx = bx ∧ by' = by' ∧ True) ∧
                                          True ∧
                                            ((64 : Nat) = (64 : Nat) ∧
                                                (0 : Nat) = (0 : Nat) ∧ cx = cx ∧ cy = cy ∧ dx = dx ∧ dy = dy ∧ True) ∧
                                              True ∧
                                                ((61 : Nat) = (61 : Nat) ∧
                                                    (0 : Nat) = (0 : Nat) ∧ ax = ax ∧ ay = ay ∧ True) ∧
                                                  True ∧
                                                    ((61 : Nat) = (61 : Nat) ∧
                                                        (0 : Nat) = (0 : Nat) ∧ bx = bx ∧ by' = by' ∧ True) ∧
                                                      True ∧
                                                        ((61 : Nat) = (61 : Nat) ∧
                                                            (0 : Nat) = (0 : Nat) ∧ cx = cx ∧ cy = cy ∧ True) ∧
                                                          True ∧
                                                            ((61 : Nat) = (61 : Nat) ∧
                                                                (0 : Nat) = (0 : Nat) ∧ dx = dx ∧ dy = dy ∧ True) ∧
                                                              True))) ∧
                      (Go.Sx.fGt Go.FloatKind.f64 cx dx = Bool.false →
                        (Go.Sx.fGt Go.FloatKind.f64 ax dx = Bool.true → R Go.Sx.SV.ff) ∧
                          (Go.Sx.fGt Go.FloatKind.f64 ax dx = Bool.false →
                            (Go.Sx.fLt Go.FloatKind.f64 bx cx = Bool.true → R Go.Sx.SV.ff) ∧
                              (Go.Sx.fLt Go.FloatKind.f64 bx cx = Bool.false →
                                ∃ (j : Nat),
                                  P2 ∧
                                    ((True ∧ (0 : Nat) = (0 : Nat)) ∧
                                        (True ∧ (0 : Nat) = (0 : Nat)) ∧
                                          (True ∧ (0 : Nat) = (0 : Nat)) ∧
                                            (True ∧ (0 : Nat) = (0 : Nat)) ∧
                                              (True ∧ (0 : Nat) = (0 : Nat)) ∧ (True ∧ (0 : Nat) = (0 : Nat)) ∧ True) ∧
                                      True ∧
                                        ((64 : Nat) = (64 : Nat) ∧
                                            (0 : Nat) = (0 : Nat) ∧ ax = ax ∧ ay = ay ∧ bx = bx ∧ by' = by' ∧ True) ∧
                                          True ∧
                                            ((64 : Nat) = (64 : Nat) ∧
                                                (0 : Nat) = (0 : Nat) ∧ cx = cx ∧ cy = cy ∧ dx = dx ∧ dy = dy ∧ True) ∧
                                              True ∧
                                                ((61 : Nat) = (61 : Nat) ∧
                                                    (0 : Nat) = (0 : Nat) ∧ ax = ax ∧ ay = ay ∧ True) ∧
                                                  True ∧
                                                    ((61 : Nat) = (61 : Nat) ∧
                                                        (0 : Nat) = (0 : Nat) ∧ bx = bx ∧ by' = by' ∧ True) ∧
                                                      True ∧
                                                        ((61 : Nat) = (61 : Nat) ∧
                                                            (0 : Nat) = (0 : Nat) ∧ cx = cx ∧ cy = cy ∧ True) ∧
                                                          True ∧
                                                            ((61 : Nat) = (61 : Nat) ∧
                                                                (0 : Nat) = (0 : Nat) ∧ dx = dx ∧ dy = dy ∧ True) ∧
                                                              True))))) ∧
                ∀ (j : Nat),
                  P2 →
                    (((Go.Sx.fEq Go.FloatKind.f64 ax cx && (Go.Sx.fEq Go.FloatKind.f64 ay cy && Bool.true)) = Bool.true →
                          R Go.Sx.SV.tt) ∧
                        ((Go.Sx.fEq Go.FloatKind.f64 ax cx && (Go.Sx.fEq Go.FloatKind.f64 ay cy && Bool.true)) =
                            Bool.false →
                          ((Go.Sx.fEq Go.FloatKind.f64 ax dx && (Go.Sx.fEq Go.FloatKind.f64 ay dy && Bool.true)) =
                                Bool.true →
                              R Go.Sx.SV.tt) ∧
                            ((Go.Sx.fEq Go.FloatKind.f64 ax dx && (Go.Sx.fEq Go.FloatKind.f64 ay dy && Bool.true)) =
                                Bool.false →
                              ((Go.Sx.fEq Go.FloatKind.f64 bx cx && (Go.Sx.fEq Go.FloatKind.f64 by' cy && Bool.true)) =
                                    Bool.true →
                                  R Go.Sx.SV.tt) ∧
                                ((Go.Sx.fEq Go.FloatKind.f64 bx cx && (Go.Sx.fEq Go.FloatKind.f64 by' cy && Bool.true)) =
                                    Bool.false →
                                  ((Go.Sx.fEq Go.FloatKind.f64 bx dx &&
                                          (Go.Sx.fEq Go.FloatKind.f64 by' dy && Bool.true)) =
                                        Bool.true →
                                      R Go.Sx.SV.tt) ∧
                                    ((Go.Sx.fEq Go.FloatKind.f64 bx dx &&
                                          (Go.Sx.fEq Go.FloatKind.f64 by' dy && Bool.true)) =
                                        Bool.false →
                                      ∃ (j : Nat),
                                        P3 ∧
                                          ((True ∧ (0 : Nat) = (0 : Nat)) ∧
                                              (True ∧ (0 : Nat) = (0 : Nat)) ∧
                                                (True ∧ (0 : Nat) = (0 : Nat)) ∧
                                                  (True ∧ (0 : Nat) = (0 : Nat)) ∧
                                                    (True ∧ (0 : Nat) = (0 : Nat)) ∧
                                                      (True ∧ (0 : Nat) = (0 : Nat)) ∧ True) ∧
                                            True ∧
                                              ((64 : Nat) = (64 : Nat) ∧
                                                  (0 : Nat) = (0 : Nat) ∧
                                                    ax = ax ∧ ay = ay ∧ bx = bx ∧ by' = by' ∧ True) ∧
                                                True ∧
                                                  ((64 : Nat) = (64 : Nat) ∧
                                                      (0 : Nat) = (0 : Nat) ∧
                                                        cx = cx ∧ cy = cy ∧ dx = dx ∧ dy = dy ∧ True) ∧
                                                    True ∧
                                                      ((61 : Nat) = (61 : Nat) ∧
                                                          (0 : Nat) = (0 : Nat) ∧ ax = ax ∧ ay = ay ∧ True) ∧
                                                        True ∧
                                                          ((61 : Nat) = (61 : Nat) ∧
                                                              (0 : Nat) = (0 : Nat) ∧ bx = bx ∧ by' = by' ∧ True) ∧
                                                            True ∧
                                                              ((61 : Nat) = (61 : Nat) ∧
                                                                  (0 : Nat) = (0 : Nat) ∧ cx = cx ∧ cy = cy ∧ True) ∧
                                                                True ∧
                                                                  ((61 : Nat) = (61 : Nat) ∧
                                                                      (0 : Nat) = (0 : Nat) ∧ dx = dx ∧ dy = dy ∧ True) ∧
                                                                    True))))) ∧
                      ∀ (j : Nat),
                        P3 →
                          Go.Sx.fok Go.BinOp.sub Go.FloatKind.f64 cx ax ∧
                            Go.Sx.fok Go.BinOp.sub Go.FloatKind.f64 cy ay ∧
                              Bool.true = Bool.true ∧
                                Go.Sx.fok Go.BinOp.sub Go.FloatKind.f64 bx ax ∧
                                  Go.Sx.fok Go.BinOp.sub Go.FloatKind.f64 by' ay ∧
                                    Bool.true = Bool.true ∧
                                      (Go.Sx.fok Go.BinOp.mul Go.FloatKind.f64
                                            (Go.Sx.fop Go.BinOp.sub Go.FloatKind.f64 cx ax)
                                            (Go.Sx.fop Go.BinOp.sub Go.FloatKind.f64 by' ay) ∧
                                          Go.Sx.fok Go.BinOp.mul Go.FloatKind.f64
                                              (Go.Sx.fop Go.BinOp.sub Go.FloatKind.f64 cy ay)
                                              (Go.Sx.fop Go.BinOp.sub Go.FloatKind.f64 bx ax) ∧
                                            Go.Sx.fok Go.BinOp.sub Go.FloatKind.f64
                                                (Go.Sx.fop Go.BinOp.mul Go.FloatKind.f64
                                                  (Go.Sx.fop Go.BinOp.sub Go.FloatKind.f64 cx ax)
                                                  (Go.Sx.fop Go.BinOp.sub Go.FloatKind.f64 by' ay))
                                                (Go.Sx.fop Go.BinOp.mul Go.FloatKind.f64
                                                  (Go.Sx.fop Go.BinOp.sub Go.FloatKind.f64 cy ay)
                                                  (Go.Sx.fop Go.BinOp.sub Go.FloatKind.f64 bx ax)) ∧
                                              ∃ (j : Nat),
                                                P3 ∧
                                                  (Go.Sx.fop Go.BinOp.sub Go.FloatKind.f64 cx ax =
                                                        Go.Proofs.Try.Sx.D cx ax ∧
                                                      Go.Sx.fop Go.BinOp.sub Go.FloatKind.f64 cy ay =
                                                          Go.Proofs.Try.Sx.D cy ay ∧
                                                        Go.Sx.fop Go.BinOp.sub Go.FloatKind.f64 bx ax =
                                                            Go.Proofs.Try.Sx.D bx ax ∧
                                                          Go.Sx.fop Go.BinOp.sub Go.FloatKind.f64 by' ay =
                                                              Go.Proofs.Try.Sx.D by' ay ∧
                                                            Go.Sx.fop Go.BinOp.sub Go.FloatKind.f64
                                                                  (Go.Sx.fop Go.BinOp.mul Go.FloatKind.f64
                                                                    (Go.Sx.fop Go.BinOp.sub Go.FloatKind.f64 cx ax)
                                                                    (Go.Sx.fop Go.BinOp.sub Go.FloatKind.f64 by' ay))
                                                                  (Go.Sx.fop Go.BinOp.mul Go.FloatKind.f64
                                                                    (Go.Sx.fop Go.BinOp.sub Go.FloatKind.f64 cy ay)
                                                                    (Go.Sx.fop Go.BinOp.sub Go.FloatKind.f64 bx ax)) =
                                                                Go.Proofs.Try.Sx.CR (Go.Proofs.Try.Sx.D cx ax)
                                                                  (Go.Proofs.Try.Sx.D cy ay) (Go.Proofs.Try.Sx.D bx ax)
                                                                  (Go.Proofs.Try.Sx.D by' ay) ∧
                                                              (True ∧ (0 : Nat) = (0 : Nat)) ∧
                                                                (True ∧ (0 : Nat) = (0 : Nat)) ∧
                                                                  (True ∧ (0 : Nat) = (0 : Nat)) ∧
                                                                    (True ∧ (0 : Nat) = (0 : Nat)) ∧
                                                                      (True ∧ (0 : Nat) = (0 : Nat)) ∧
                                                                        (True ∧ (0 : Nat) = (0 : Nat)) ∧ True) ∧
                                                    True ∧
                                                      ((64 : Nat) = (64 : Nat) ∧
                                                          (0 : Nat) = (0 : Nat) ∧
                                                            ax = ax ∧ ay = ay ∧ bx = bx ∧ by' = by' ∧ True) ∧
                                                        True ∧
                                                          ((64 : Nat) = (64 : Nat) ∧
                                                              (0 : Nat) = (0 : Nat) ∧
                                                                cx = cx ∧ cy = cy ∧ dx = dx ∧ dy = dy ∧ True) ∧
                                                            True ∧
                                                              ((61 : Nat) = (61 : Nat) ∧
                                                                  (0 : Nat) = (0 : Nat) ∧ ax = ax ∧ ay = ay ∧ True) ∧
                                                                True ∧
                                                                  ((61 : Nat) = (61 : Nat) ∧
                                                                      (0 : Nat) = (0 : Nat) ∧
                                                                        bx = bx ∧ by' = by' ∧ True) ∧
                                                                    True ∧
                                                                      ((61 : Nat) = (61 : Nat) ∧
                                                                          (0 : Nat) = (0 : Nat) ∧
                                                                            cx = cx ∧ cy = cy ∧ True) ∧
                                                                        True ∧
                                                                          ((61 : Nat) = (61 : Nat) ∧
                                                                              (0 : Nat) = (0 : Nat) ∧
                                                                                dx = dx ∧ dy = dy ∧ True) ∧
                                                                            True) ∧
                                        ∀ (j : Nat),
                                          P3 →
                                            (((!(Go.Sx.fLt Go.FloatKind.f64
                                                          (Go.Proofs.Try.Sx.CR (Go.Proofs.Try.Sx.D cx ax)
                                                            (Go.Proofs.Try.Sx.D cy ay) (Go.Proofs.Try.Sx.D bx ax)
                                                            (Go.Proofs.Try.Sx.D by' ay))
                                                          (0 : Nat) ||
                                                        Go.Sx.fGt Go.FloatKind.f64
                                                          (Go.Proofs.Try.Sx.CR (Go.Proofs.Try.Sx.D cx ax)
                                                            (Go.Proofs.Try.Sx.D cy ay) (Go.Proofs.Try.Sx.D bx ax)
                                                            (Go.Proofs.Try.Sx.D by' ay))
                                                          (0 : Nat))) =
                                                    Bool.true →
                                                  Go.Sx.fok Go.BinOp.sub Go.FloatKind.f64 cx ax ∧
                                                    Go.Sx.fok Go.BinOp.sub Go.FloatKind.f64 cx bx ∧
                                                      ((!Go.Sx.fLe Go.FloatKind.f64
                                                                  (Go.Sx.fop Go.BinOp.sub Go.FloatKind.f64 cx ax)
                                                                  (0 : Nat) ==
                                                                Go.Sx.fLe Go.FloatKind.f64
                                                                  (Go.Sx.fop Go.BinOp.sub Go.FloatKind.f64 cx bx)
                                                                  (0 : Nat)) =
                                                            Bool.true →
                                                          R Go.Sx.SV.tt) ∧
                                                        ((!Go.Sx.fLe Go.FloatKind.f64
                                                                  (Go.Sx.fop Go.BinOp.sub Go.FloatKind.f64 cx ax)
                                                                  (0 : Nat) ==
                                                                Go.Sx.fLe Go.FloatKind.f64
                                                                  (Go.Sx.fop Go.BinOp.sub Go.FloatKind.f64 cx bx)
                                                                  (0 : Nat)) =
                                                            Bool.false →
                                                          Go.Sx.fok Go.BinOp.sub Go.FloatKind.f64 cy ay ∧
                                                            Go.Sx.fok Go.BinOp.sub Go.FloatKind.f64 cy by' ∧
                                                              ((!!Go.Sx.fLe Go.FloatKind.f64
                                                                            (Go.Sx.fop Go.BinOp.sub Go.FloatKind.f64 cy
                                                                              ay)
                                                                            (0 : Nat) ==
                                                                          Go.Sx.fLe Go.FloatKind.f64
                                                                            (Go.Sx.fop Go.BinOp.sub Go.FloatKind.f64 cy
                                                                              by')
                                                                            (0 : Nat)) =
                                                                    Bool.true →
                                                                  Go.Proofs.Try.Sx.Pts ax ay bx by' cx cy
                                                                      (Go.Proofs.Try.Sx.wh ax) (Go.Proofs.Try.Sx.wh ay)
                                                                      (Go.Proofs.Try.Sx.wh bx) (Go.Proofs.Try.Sx.wh by')
                                                                      (Go.Proofs.Try.Sx.wh cx) (Go.Proofs.Try.Sx.wh cy) ∧
                                                                    (Decidable.decide
                                                                            (Go.Geo.On (Go.Proofs.Try.Sx.wh ax)
                                                                              (Go.Proofs.Try.Sx.wh ay)
                                                                              (Go.Proofs.Try.Sx.wh bx)
                                                                              (Go.Proofs.Try.Sx.wh by')
                                                                              (Go.Proofs.Try.Sx.wh cx)
                                                                              (Go.Proofs.Try.Sx.wh cy)) =
                                                                          Bool.true →
                                                                        R Go.Sx.SV.tt) ∧
                                                                      (Decidable.decide
                                                                            (Go.Geo.On (Go.Proofs.Try.Sx.wh ax)
                                                                              (Go.Proofs.Try.Sx.wh ay)
                                                                              (Go.Proofs.Try.Sx.wh bx)
                                                                              (Go.Proofs.Try.Sx.wh by')
                                                                              (Go.Proofs.Try.Sx.wh cx)
                                                                              (Go.Proofs.Try.Sx.wh cy)) =
                                                                          Bool.false →
                                                                        Go.Proofs.Try.Sx.Pts ax ay bx by' dx dy
                                                                            (Go.Proofs.Try.Sx.wh ax)
                                                                            (Go.Proofs.Try.Sx.wh ay)
                                                                            (Go.Proofs.Try.Sx.wh bx)
                                                                            (Go.Proofs.Try.Sx.wh by')
                                                                            (Go.Proofs.Try.Sx.wh dx)
                                                                            (Go.Proofs.Try.Sx.wh dy) ∧
                                                                          R
                                                                            (Go.Sx.SV.bool
                                                                              (Decidable.decide
                                                                                (Go.Geo.On (Go.Proofs.Try.Sx.wh ax)
                                                                                  (Go.Proofs.Try.Sx.wh ay)
                                                                                  (Go.Proofs.Try.Sx.wh bx)
                                                                                  (Go.Proofs.Try.Sx.wh by')
                                                                                  (Go.Proofs.Try.Sx.wh dx)
                                                                                  (Go.Proofs.Try.Sx.wh dy)))))) ∧
                                                                ((!!Go.Sx.fLe Go.FloatKind.f64
                                                                            (Go.Sx.fop Go.BinOp.sub Go.FloatKind.f64 cy
                                                                              ay)
                                                                            (0 : Nat) ==
                                                                          Go.Sx.fLe Go.FloatKind.f64
                                                                            (Go.Sx.fop Go.BinOp.sub Go.FloatKind.f64 cy
                                                                              by')
                                                                            (0 : Nat)) =
                                                                    Bool.false →
                                                                  R Go.Sx.SV.tt))) ∧
                                                ((!(Go.Sx.fLt Go.FloatKind.f64
                                                          (Go.Proofs.Try.Sx.CR (Go.Proofs.Try.Sx.D cx ax)
                                                            (Go.Proofs.Try.Sx.D cy ay) (Go.Proofs.Try.Sx.D bx ax)
                                                            (Go.Proofs.Try.Sx.D by' ay))
                                                          (0 : Nat) ||
                                                        Go.Sx.fGt Go.FloatKind.f64
                                                          (Go.Proofs.Try.Sx.CR (Go.Proofs.Try.Sx.D cx ax)
                                                            (Go.Proofs.Try.Sx.D cy ay) (Go.Proofs.Try.Sx.D bx ax)
                                                            (Go.Proofs.Try.Sx.D by' ay))
                                                          (0 : Nat))) =
                                                    Bool.false →
                                                  ∃ (j : Nat),
                                                    P4 ∧
                                                      (Go.Proofs.Try.Sx.D cx ax = Go.Proofs.Try.Sx.D cx ax ∧
                                                          Go.Proofs.Try.Sx.D cy ay = Go.Proofs.Try.Sx.D cy ay ∧
                                                            Go.Proofs.Try.Sx.D bx ax = Go.Proofs.Try.Sx.D bx ax ∧
                                                              Go.Proofs.Try.Sx.D by' ay = Go.Proofs.Try.Sx.D by' ay ∧
                                                                Go.Proofs.Try.Sx.CR (Go.Proofs.Try.Sx.D cx ax)
                                                                      (Go.Proofs.Try.Sx.D cy ay)
                                                                      (Go.Proofs.Try.Sx.D bx ax)
                                                                      (Go.Proofs.Try.Sx.D by' ay) =
                                                                    Go.Proofs.Try.Sx.CR (Go.Proofs.Try.Sx.D cx ax)
                                                                      (Go.Proofs.Try.Sx.D cy ay)
                                                                      (Go.Proofs.Try.Sx.D bx ax)
                                                                      (Go.Proofs.Try.Sx.D by' ay) ∧
                                                                  (True ∧ (0 : Nat) = (0 : Nat)) ∧
                                                                    (True ∧ (0 : Nat) = (0 : Nat)) ∧
                                                                      (True ∧ (0 : Nat) = (0 : Nat)) ∧
                                                                        (True ∧ (0 : Nat) = (0 : Nat)) ∧
                                                                          (True ∧ (0 : Nat) = (0 : Nat)) ∧
                                                                            (True ∧ (0 : Nat) = (0 : Nat)) ∧ True) ∧
                                                        True ∧
                                                          ((64 : Nat) = (64 : Nat) ∧
                                                              (0 : Nat) = (0 : Nat) ∧
                                                                ax = ax ∧ ay = ay ∧ bx = bx ∧ by' = by' ∧ True) ∧
                                                            True ∧
                                                              ((64 : Nat) = (64 : Nat) ∧
                                                                  (0 : Nat) = (0 : Nat) ∧
                                                                    cx = cx ∧ cy = cy ∧ dx = dx ∧ dy = dy ∧ True) ∧
                                                                True ∧
                                                                  ((61 : Nat) = (61 : Nat) ∧
                                                                      (0 : Nat) = (0 : Nat) ∧ ax = ax ∧ ay = ay ∧ True) ∧
                                                                    True ∧
                                                                      ((61 : Nat) = (61 : Nat) ∧
                                                                          (0 : Nat) = (0 : Nat) ∧
                                                                            bx = bx ∧ by' = by' ∧ True) ∧
                                                                        True ∧
                                                                          ((61 : Nat) = (61 : Nat) ∧
                                                                              (0 : Nat) = (0 : Nat) ∧
                                                                                cx = cx ∧ cy = cy ∧ True) ∧
                                                                            True ∧
                                                                              ((61 : Nat) = (61 : Nat) ∧
                                                                                  (0 : Nat) = (0 : Nat) ∧
                                                                                    dx = dx ∧ dy = dy ∧ True) ∧
                                                                                True)) ∧
                                              ∀ (j : Nat),
                                                P4 →
                                                  Go.Sx.fok Go.BinOp.sub Go.FloatKind.f64 dx cx ∧
                                                    Go.Sx.fok Go.BinOp.sub Go.FloatKind.f64 dy cy ∧
                                                      Bool.true = Bool.true ∧
                                                        Go.Sx.fok Go.BinOp.mul Go.FloatKind.f64 (Go.Proofs.Try.Sx.D cx ax)
                                                            (Go.Sx.fop Go.BinOp.sub Go.FloatKind.f64 dy cy) ∧
                                                          Go.Sx.fok Go.BinOp.mul Go.FloatKind.f64
                                                              (Go.Proofs.Try.Sx.D cy ay)
                                                              (Go.Sx.fop Go.BinOp.sub Go.FloatKind.f64 dx cx) ∧
                                                            Go.Sx.fok Go.BinOp.sub Go.FloatKind.f64
                                                                (Go.Sx.fop Go.BinOp.mul Go.FloatKind.f64
                                                                  (Go.Proofs.Try.Sx.D cx ax)
                                                                  (Go.Sx.fop Go.BinOp.sub Go.FloatKind.f64 dy cy))
                                                                (Go.Sx.fop Go.BinOp.mul Go.FloatKind.f64
                                                                  (Go.Proofs.Try.Sx.D cy ay)
                                                                  (Go.Sx.fop Go.BinOp.sub Go.FloatKind.f64 dx cx)) ∧
                                                              (Go.Sx.fok Go.BinOp.mul Go.FloatKind.f64
                                                                    (Go.Proofs.Try.Sx.D bx ax)
                                                                    (Go.Sx.fop Go.BinOp.sub Go.FloatKind.f64 dy cy) ∧
                                                                  Go.Sx.fok Go.BinOp.mul Go.FloatKind.f64
                                                                      (Go.Proofs.Try.Sx.D by' ay)
                                                                      (Go.Sx.fop Go.BinOp.sub Go.FloatKind.f64 dx cx) ∧
                                                                    Go.Sx.fok Go.BinOp.sub Go.FloatKind.f64
                                                                        (Go.Sx.fop Go.BinOp.mul Go.FloatKind.f64
                                                                          (Go.Proofs.Try.Sx.D bx ax)
                                                                          (Go.Sx.fop Go.BinOp.sub Go.FloatKind.f64 dy cy))
                                                                        (Go.Sx.fop Go.BinOp.mul Go.FloatKind.f64
                                                                          (Go.Proofs.Try.Sx.D by' ay)
                                                                          (Go.Sx.fop Go.BinOp.sub Go.FloatKind.f64 dx
                                                                            cx)) ∧
                                                                      ∃ (j : Nat),
                                                                        P4 ∧
                                                                          (Go.Proofs.Try.Sx.CR (Go.Proofs.Try.Sx.D cx ax)
                                                                                  (Go.Proofs.Try.Sx.D cy ay)
                                                                                  (Go.Proofs.Try.Sx.D bx ax)
                                                                                  (Go.Proofs.Try.Sx.D by' ay) =
                                                                                Go.Proofs.Try.Sx.CR
                                                                                  (Go.Proofs.Try.Sx.D cx ax)
                                                                                  (Go.Proofs.Try.Sx.D cy ay)
                                                                                  (Go.Proofs.Try.Sx.D bx ax)
                                                                                  (Go.Proofs.Try.Sx.D by' ay) ∧
                                                                              Go.Sx.fop Go.BinOp.sub Go.FloatKind.f64
                                                                                    (Go.Sx.fop Go.BinOp.mul
                                                                                      Go.FloatKind.f64
                                                                                      (Go.Proofs.Try.Sx.D cx ax)
                                                                                      (Go.Sx.fop Go.BinOp.sub
                                                                                        Go.FloatKind.f64 dy cy))
                                                                                    (Go.Sx.fop Go.BinOp.mul
                                                                                      Go.FloatKind.f64
                                                                                      (Go.Proofs.Try.Sx.D cy ay)
                                                                                      (Go.Sx.fop Go.BinOp.sub
                                                                                        Go.FloatKind.f64 dx cx)) =
                                                                                  Go.Proofs.Try.Sx.CR
                                                                                    (Go.Proofs.Try.Sx.D cx ax)
                                                                                    (Go.Proofs.Try.Sx.D cy ay)
                                                                                    (Go.Proofs.Try.Sx.D dx cx)
                                                                                    (Go.Proofs.Try.Sx.D dy cy) ∧
                                                                                Go.Sx.fop Go.BinOp.sub Go.FloatKind.f64
                                                                                      (Go.Sx.fop Go.BinOp.mul
                                                                                        Go.FloatKind.f64
                                                                                        (Go.Proofs.Try.Sx.D bx ax)
                                                                                        (Go.Sx.fop Go.BinOp.sub
                                                                                          Go.FloatKind.f64 dy cy))
                                                                                      (Go.Sx.fop Go.BinOp.mul
                                                                                        Go.FloatKind.f64
                                                                                        (Go.Proofs.Try.Sx.D by' ay)
                                                                                        (Go.Sx.fop Go.BinOp.sub
                                                                                          Go.FloatKind.f64 dx cx)) =
                                                                                    Go.Proofs.Try.Sx.CR
                                                                                      (Go.Proofs.Try.Sx.D bx ax)
                                                                                      (Go.Proofs.Try.Sx.D by' ay)
                                                                                      (Go.Proofs.Try.Sx.D dx cx)
                                                                                      (Go.Proofs.Try.Sx.D dy cy) ∧
                                                                                  (True ∧ (0 : Nat) = (0 : Nat)) ∧
                                                                                    (True ∧ (0 : Nat) = (0 : Nat)) ∧
                                                                                      (True ∧ (0 : Nat) = (0 : Nat)) ∧
                                                                                        (True ∧ (0 : Nat) = (0 : Nat)) ∧
                                                                                          (True ∧ (0 : Nat) = (0 : Nat)) ∧
                                                                                            (True ∧
                                                                                                (0 : Nat) = (0 : Nat)) ∧
                                                                                              True) ∧
                                                                            True ∧
                                                                              ((64 : Nat) = (64 : Nat) ∧
                                                                                  (0 : Nat) = (0 : Nat) ∧
                                                                                    ax = ax ∧
                                                                                      ay = ay ∧
                                                                                        bx = bx ∧ by' = by' ∧ True) ∧
                                                                                True ∧
                                                                                  ((64 : Nat) = (64 : Nat) ∧
                                                                                      (0 : Nat) = (0 : Nat) ∧
                                                                                        cx = cx ∧
                                                                                          cy = cy ∧
                                                                                            dx = dx ∧ dy = dy ∧ True) ∧
                                                                                    True ∧
                                                                                      ((61 : Nat) = (61 : Nat) ∧
                                                                                          (0 : Nat) = (0 : Nat) ∧
                                                                                            ax = ax ∧ ay = ay ∧ True) ∧
                                                                                        True ∧
                                                                                          ((61 : Nat) = (61 : Nat) ∧
                                                                                              (0 : Nat) = (0 : Nat) ∧
                                                                                                bx = bx ∧
                                                                                                  by' = by' ∧ True) ∧
                                                                                            True ∧
                                                                                              ((61 : Nat) = (61 : Nat) ∧
                                                                                                  (0 : Nat) = (0 : Nat) ∧
                                                                                                    cx = cx ∧
                                                                                                      cy = cy ∧ True) ∧
                                                                                                True ∧
                                                                                                  ((61 : Nat) =
                                                                                                        (61 : Nat) ∧
                                                                                                      (0 : Nat) =
                                                                                                          (0 : Nat) ∧
                                                                                                        dx = dx ∧
                                                                                                          dy = dy ∧
                                                                                                            True) ∧
                                                                                                    True) ∧
                                                                ∀ (j : Nat),
                                                                  P4 →
                                                                    (((!(Go.Sx.fLt Go.FloatKind.f64
                                                                                  (Go.Proofs.Try.Sx.CR
                                                                                    (Go.Proofs.Try.Sx.D bx ax)
                                                                                    (Go.Proofs.Try.Sx.D by' ay)
                                                                                    (Go.Proofs.Try.Sx.D dx cx)
                                                                                    (Go.Proofs.Try.Sx.D dy cy))
                                                                                  (0 : Nat) ||
                                                                                Go.Sx.fGt Go.FloatKind.f64
                                                                                  (Go.Proofs.Try.Sx.CR
                                                                                    (Go.Proofs.Try.Sx.D bx ax)
                                                                                    (Go.Proofs.Try.Sx.D by' ay)
                                                                                    (Go.Proofs.Try.Sx.D dx cx)
                                                                                    (Go.Proofs.Try.Sx.D dy cy))
                                                                                  (0 : Nat))) =
                                                                            Bool.true →
                                                                          R Go.Sx.SV.ff) ∧
                                                                        ((!(Go.Sx.fLt Go.FloatKind.f64
                                                                                  (Go.Proofs.Try.Sx.CR
                                                                                    (Go.Proofs.Try.Sx.D bx ax)
                                                                                    (Go.Proofs.Try.Sx.D by' ay)
                                                                                    (Go.Proofs.Try.Sx.D dx cx)
                                                                                    (Go.Proofs.Try.Sx.D dy cy))
                                                                                  (0 : Nat) ||
                                                                                Go.Sx.fGt Go.FloatKind.f64
                                                                                  (Go.Proofs.Try.Sx.CR
                                                                                    (Go.Proofs.Try.Sx.D bx ax)
                                                                                    (Go.Proofs.Try.Sx.D by' ay)
                                                                                    (Go.Proofs.Try.Sx.D dx cx)
                                                                                    (Go.Proofs.Try.Sx.D dy cy))
                                                                                  (0 : Nat))) =
                                                                            Bool.false →
                                                                          ∃ (j : Nat),
                                                                            P5 ∧
                                                                              (Go.Proofs.Try.Sx.CR
                                                                                      (Go.Proofs.Try.Sx.D cx ax)
                                                                                      (Go.Proofs.Try.Sx.D cy ay)
                                                                                      (Go.Proofs.Try.Sx.D bx ax)
                                                                                      (Go.Proofs.Try.Sx.D by' ay) =
                                                                                    Go.Proofs.Try.Sx.CR
                                                                                      (Go.Proofs.Try.Sx.D cx ax)
                                                                                      (Go.Proofs.Try.Sx.D cy ay)
                                                                                      (Go.Proofs.Try.Sx.D bx ax)
                                                                                      (Go.Proofs.Try.Sx.D by' ay) ∧
                                                                                  Go.Proofs.Try.Sx.CR
                                                                                        (Go.Proofs.Try.Sx.D cx ax)
                                                                                        (Go.Proofs.Try.Sx.D cy ay)
                                                                                        (Go.Proofs.Try.Sx.D dx cx)
                                                                                        (Go.Proofs.Try.Sx.D dy cy) =
                                                                                      Go.Proofs.Try.Sx.CR
                                                                                        (Go.Proofs.Try.Sx.D cx ax)
                                                                                        (Go.Proofs.Try.Sx.D cy ay)
                                                                                        (Go.Proofs.Try.Sx.D dx cx)
                                                                                        (Go.Proofs.Try.Sx.D dy cy) ∧
                                                                                    Go.Proofs.Try.Sx.CR
                                                                                          (Go.Proofs.Try.Sx.D bx ax)
                                                                                          (Go.Proofs.Try.Sx.D by' ay)
                                                                                          (Go.Proofs.Try.Sx.D dx cx)
                                                                                          (Go.Proofs.Try.Sx.D dy cy) =
                                                                                        Go.Proofs.Try.Sx.CR
                                                                                          (Go.Proofs.Try.Sx.D bx ax)
                                                                                          (Go.Proofs.Try.Sx.D by' ay)
                                                                                          (Go.Proofs.Try.Sx.D dx cx)
                                                                                          (Go.Proofs.Try.Sx.D dy cy) ∧
                                                                                      (True ∧ (0 : Nat) = (0 : Nat)) ∧
                                                                                        (True ∧ (0 : Nat) = (0 : Nat)) ∧
                                                                                          (True ∧ (0 : Nat) = (0 : Nat)) ∧
                                                                                            (True ∧
                                                                                                (0 : Nat) = (0 : Nat)) ∧
                                                                                              (True ∧
                                                                                                  (0 : Nat) = (0 : Nat)) ∧
                                                                                                (True ∧
                                                                                                    (0 : Nat) =
                                                                                                      (0 : Nat)) ∧
                                                                                                  True) ∧
                                                                                True ∧
                                                                                  ((64 : Nat) = (64 : Nat) ∧
                                                                                      (0 : Nat) = (0 : Nat) ∧
                                                                                        ax = ax ∧
                                                                                          ay = ay ∧
                                                                                            bx = bx ∧ by' = by' ∧ True) ∧
                                                                                    True ∧
                                                                                      ((64 : Nat) = (64 : Nat) ∧
                                                                                          (0 : Nat) = (0 : Nat) ∧
                                                                                            cx = cx ∧
                                                                                              cy = cy ∧
                                                                                                dx = dx ∧
                                                                                                  dy = dy ∧ True) ∧
                                                                                        True ∧
                                                                                          ((61 : Nat) = (61 : Nat) ∧
                                                                                              (0 : Nat) = (0 : Nat) ∧
                                                                                                ax = ax ∧
                                                                                                  ay = ay ∧ True) ∧
                                                                                            True ∧
                                                                                              ((61 : Nat) = (61 : Nat) ∧
                                                                                                  (0 : Nat) = (0 : Nat) ∧
                                                                                                    bx = bx ∧
                                                                                                      by' = by' ∧ True) ∧
                                                                                                True ∧
                                                                                                  ((61 : Nat) =
                                                                                                        (61 : Nat) ∧
                                                                                                      (0 : Nat) =
                                                                                                          (0 : Nat) ∧
                                                                                                        cx = cx ∧
                                                                                                          cy = cy ∧
                                                                                                            True) ∧
                                                                                                    True ∧
                                                                                                      ((61 : Nat) =
                                                                                                            (61 : Nat) ∧
                                                                                                          (0 : Nat) =
                                                                                                              (0 : Nat) ∧
                                                                                                            dx = dx ∧
                                                                                                              dy = dy ∧
                                                                                                                True) ∧
                                                                                                        True)) ∧
                                                                      ∀ (j : Nat),
                                                                        P5 →
                                                                          ∀ (r : Nat),
                                                                            Go.Sx.QuoRel Go.FloatKind.f64
                                                                                (4607182418800017408 : Nat)
                                                                                (Go.Proofs.Try.Sx.CR
                                                                                  (Go.Proofs.Try.Sx.D bx ax)
                                                                                  (Go.Proofs.Try.Sx.D by' ay)
                                                                                  (Go.Proofs.Try.Sx.D dx cx)
                                                                                  (Go.Proofs.Try.Sx.D dy cy))
                                                                                r →
                                                                              Go.Sx.fok Go.BinOp.mul Go.FloatKind.f64
                                                                                  (Go.Proofs.Try.Sx.CR
                                                                                    (Go.Proofs.Try.Sx.D cx ax)
                                                                                    (Go.Proofs.Try.Sx.D cy ay)
                                                                                    (Go.Proofs.Try.Sx.D dx cx)
                                                                                    (Go.Proofs.Try.Sx.D dy cy))
                                                                                  r ∧
                                                                                Go.Sx.fok Go.BinOp.mul Go.FloatKind.f64
                                                                                    (Go.Proofs.Try.Sx.CR
                                                                                      (Go.Proofs.Try.Sx.D cx ax)
                                                                                      (Go.Proofs.Try.Sx.D cy ay)
                                                                                      (Go.Proofs.Try.Sx.D bx ax)
                                                                                      (Go.Proofs.Try.Sx.D by' ay))
                                                                                    r ∧
                                                                                  (Go.Sx.fGe Go.FloatKind.f64
                                                                                          (Go.Sx.fop Go.BinOp.mul
                                                                                            Go.FloatKind.f64
                                                                                            (Go.Proofs.Try.Sx.CR
                                                                                              (Go.Proofs.Try.Sx.D cx ax)
                                                                                              (Go.Proofs.Try.Sx.D cy ay)
                                                                                              (Go.Proofs.Try.Sx.D dx cx)
                                                                                              (Go.Proofs.Try.Sx.D dy cy))
                                                                                            r)
                                                                                          (0 : Nat) =
                                                                                        Bool.true →
                                                                                      (Go.Sx.fLe Go.FloatKind.f64
                                                                                              (Go.Sx.fop Go.BinOp.mul
                                                                                                Go.FloatKind.f64
                                                                                                (Go.Proofs.Try.Sx.CR
                                                                                                  (Go.Proofs.Try.Sx.D cx
                                                                                                    ax)
                                                                                                  (Go.Proofs.Try.Sx.D cy
                                                                                                    ay)
                                                                                                  (Go.Proofs.Try.Sx.D dx
                                                                                                    cx)
                                                                                                  (Go.Proofs.Try.Sx.D dy
                                                                                                    cy))
                                                                                                r)
                                                                                              (4607182418800017408 :
                                                                                                Nat) =
                                                                                            Bool.true →
                                                                                          (Go.Sx.fGe Go.FloatKind.f64
                                                                                                  (Go.Sx.fop Go.BinOp.mul
                                                                                                    Go.FloatKind.f64
                                                                                                    (Go.Proofs.Try.Sx.CR
                                                                                                      (Go.Proofs.Try.Sx.D
                                                                                                        cx ax)
                                                                                                      (Go.Proofs.Try.Sx.D
                                                                                                        cy ay)
                                                                                                      (Go.Proofs.Try.Sx.D
                                                                                                        bx ax)
                                                                                                      (Go.Proofs.Try.Sx.D
                                                                                                        by' ay))
                                                                                                    r)
                                                                                                  (0 : Nat) =
                                                                                                Bool.true →
                                                                                              ((!Go.Sx.fLe
                                                                                                        Go.FloatKind.f64
                                                                                                        (Go.Sx.fop
                                                                                                          Go.BinOp.mul
                                                                                                          Go.FloatKind.f64
                                                                                                          (Go.Proofs.Try.Sx.CR
                                                                                                            (Go.Proofs.Try.Sx.D
                                                                                                              cx ax)
                                                                                                            (Go.Proofs.Try.Sx.D
                                                                                                              cy ay)
                                                                                                            (Go.Proofs.Try.Sx.D
                                                                                                              bx ax)
                                                                                                            (Go.Proofs.Try.Sx.D
                                                                                                              by' ay))
                                                                                                          r)
                                                                                                        (4607182418800017408 :
                                                                                                          Nat)) =
                                                                                                    Bool.true →
                                                                                                  R Go.Sx.SV.ff) ∧
                                                                                                ((!Go.Sx.fLe
                                                                                                        Go.FloatKind.f64
                                                                                                        (Go.Sx.fop
                                                                                                          Go.BinOp.mul
                                                                                                          Go.FloatKind.f64
                                                                                                          (Go.Proofs.Try.Sx.CR
                                                                                                            (Go.Proofs.Try.Sx.D
                                                                                                              cx ax)
                                                                                                            (Go.Proofs.Try.Sx.D
                                                                                                              cy ay)
                                                                                                            (Go.Proofs.Try.Sx.D
                                                                                                              bx ax)
                                                                                                            (Go.Proofs.Try.Sx.D
                                                                                                              by' ay))
                                                                                                          r)
                                                                                                        (4607182418800017408 :
                                                                                                          Nat)) =
                                                                                                    Bool.false →
                                                                                                  R Go.Sx.SV.tt)) ∧
                                                                                            (Go.Sx.fGe Go.FloatKind.f64
                                                                                                  (Go.Sx.fop Go.BinOp.mul
                                                                                                    Go.FloatKind.f64
                                                                                                    (Go.Proofs.Try.Sx.CR
                                                                                                      (Go.Proofs.Try.Sx.D
                                                                                                        cx ax)
                                                                                                      (Go.Proofs.Try.Sx.D
                                                                                                        cy ay)
                                                                                                      (Go.Proofs.Try.Sx.D
                                                                                                        bx ax)
                                                                                                      (Go.Proofs.Try.Sx.D
                                                                                                        by' ay))
                                                                                                    r)
                                                                                                  (0 : Nat) =
                                                                                                Bool.false →
                                                                                              R Go.Sx.SV.ff)) ∧
                                                                                        (Go.Sx.fLe Go.FloatKind.f64
                                                                                              (Go.Sx.fop Go.BinOp.mul
                                                                                                Go.FloatKind.f64
                                                                                                (Go.Proofs.Try.Sx.CR
                                                                                                  (Go.Proofs.Try.Sx.D cx
                                                                                                    ax)
                                                                                                  (Go.Proofs.Try.Sx.D cy
                                                                                                    ay)
                                                                                                  (Go.Proofs.Try.Sx.D dx
                                                                                                    cx)
                                                                                                  (Go.Proofs.Try.Sx.D dy
                                                                                                    cy))
                                                                                                r)
                                                                                              (4607182418800017408 :
                                                                                                Nat) =
                                                                                            Bool.false →
                                                                                          R Go.Sx.SV.ff)) ∧
                                                                                    (Go.Sx.fGe Go.FloatKind.f64
                                                                                          (Go.Sx.fop Go.BinOp.mul
                                                                                            Go.FloatKind.f64
                                                                                            (Go.Proofs.Try.Sx.CR
                                                                                              (Go.Proofs.Try.Sx.D cx ax)
                                                                                              (Go.Proofs.Try.Sx.D cy ay)
                                                                                              (Go.Proofs.Try.Sx.D dx cx)
                                                                                              (Go.Proofs.Try.Sx.D dy cy))
                                                                                            r)
                                                                                          (0 : Nat) =
                                                                                        Bool.false →
                                                                                      R Go.Sx.SV.ff)) := by kernel_rfl

theorem sub_w {x y : Nat} {a b : Int} (hx : FI x a) (hy : FI y b) (ha : small a) (hb : small b) : fok .sub .f64 x y ∧ FI (fop .sub .f64 x y) (a - b) ∧ (a - b).natAbs ≤ 2097152 := by
  have := sub_I hx hy (by unfold small at ha; omega) (by unfold small at hb; omega)
  exact ⟨this.1, this.2, by unfold small at ha hb; omega⟩
theorem cr_w {x y z w : Nat} {a b c d : Int} (hx : FI x a) (hy : FI y b) (hz : FI z c) (hw : FI w d) (ha : a.natAbs ≤ 2097152) (hb : b.natAbs ≤ 2097152) (hc : c.natAbs ≤ 2097152) (hd : d.natAbs ≤ 2097152) :
    fok .mul .f64 x w ∧ fok .mul .f64 y z ∧ fok .sub .f64 (fop .mul .f64 x w) (fop .mul .f64 y z) ∧ FI (CR x y z w) (xp a b c d) ∧ (xp a b c d).natAbs ≤ 2 ^ 44 := by
  have b1 := mul_bound ha hd
  have b2 := mul_bound hb hc
  obtain ⟨m1, m2⟩ := mul_of hx hw (by omega)
  obtain ⟨m3, m4⟩ := mul_of hy hz (by omega)
  obtain ⟨r, h1, h2⟩ := FI_sub m2 m4 (by omega)
  obtain ⟨h3, h4⟩ := fop_of (op := .sub) h1
  refine ⟨m1, m3, h3, ?_, ?_⟩
  · show FI (fop .sub .f64 (fop .mul .f64 x w) (fop .mul .f64 y z)) _
    rw [h4]; exact h2
  · unfold xp; omega
theorem zt {v : Nat} {n : Int} (h : FI v n) : (!(fLt .f64 v 0 || fGt .f64 v 0)) = decide (n = 0) := by
  rw [flt_I h zero_FI, fgt_I h zero_FI]
  grind
theorem le0 {v : Nat} {n : Int} (h : FI v n) : fLe .f64 v 0 = decide (n ≤ 0) := fle_I h zero_FI

theorem isec_run {ax ay bx by' cx cy dx dy : Nat} {a1 a2 b1 b2 c1 c2 d1 d2 : Int} (H : P8 ax ay bx by' cx cy dx dy a1 a2 b1 b2 c1 c2 d1 d2) :
    ∃ A B, runA GIS 0 A B (codeOf Try.f51) (init 300 [.agg [.flt .f64 ax, .flt .f64 ay, .flt .f64 bx, .flt .f64 by'], .agg [.flt .f64 cx, .flt .f64 cy, .flt .f64 dx, .flt .f64 dy]] [] 0) (endK GIS.E.T Try.f51.results.toList fun _ v => eqv v (.bool (decide (Isec a1 a2 b1 b2 c1 c2 d1 d2)))) := by
  refine ⟨_, _, (vc_isec _ (yMeet a2 b2 c2 d2) (yMeet a2 b2 c2 d2 ∧ yMeet a1 b1 c1 d1) (yMeet a2 b2 c2 d2 ∧ yMeet a1 b1 c1 d1 ∧ noEnds a1 a2 b1 b2 c1 c2 d1 d2)
    (yMeet a2 b2 c2 d2 ∧ yMeet a1 b1 c1 d1 ∧ noEnds a1 a2 b1 b2 c1 c2 d1 d2 ∧ xp (c1 - a1) (c2 - a2) (b1 - a1) (b2 - a2) ≠ 0)
    (yMeet a2 b2 c2 d2 ∧ yMeet a1 b1 c1 d1 ∧ noEnds a1 a2 b1 b2 c1 c2 d1 d2 ∧ xp (c1 - a1) (c2 - a2) (b1 - a1) (b2 - a2) ≠ 0 ∧ xp (b1 - a1) (b2 - a2) (d1 - c1) (d2 - c2) ≠ 0) ax ay bx by' cx cy dx dy).mpr ?_⟩
  obtain ⟨⟨sa1, sa2, sb1, sb2⟩, sc1, sc2, sd1, sd2⟩ := H.s
  obtain ⟨k1, f1, n1⟩ := sub_w H.cx H.ax sc1 sa1
  obtain ⟨k2, f2, n2⟩ := sub_w H.cy H.ay sc2 sa2
  obtain ⟨k3, f3, n3⟩ := sub_w H.bx H.ax sb1 sa1
  obtain ⟨k4, f4, n4⟩ := sub_w H.by' H.ay sb2 sa2
  obtain ⟨k5, f5, n5⟩ := sub_w H.dx H.cx sd1 sc1
  obtain ⟨k6, f6, n6⟩ := sub_w H.dy H.cy sd2 sc2
  obtain ⟨k7, f7, _⟩ := sub_w H.cx H.bx sc1 sb1
  obtain ⟨k8, f8, _⟩ := sub_w H.cy H.by' sc2 sb2
  obtain ⟨u1, u2, u3, fu, nu⟩ := cr_w f1 f2 f3 f4 n1 n2 n3 n4
  obtain ⟨t1, t2, t3, ft, nt⟩ := cr_w f1 f2 f5 f6 n1 n2 n5 n6
  obtain ⟨w1, w2, w3, fw, nw⟩ := cr_w f3 f4 f5 f6 n3 n4 n5 n6
  simp only [eqv]
  refine ⟨⟨trivial, 0, trivial, by simp⟩, fun _ _ => ⟨?_, fun _ h1 => ⟨?_, fun _ h2 => ⟨?_, fun _ h3 => ?_⟩⟩⟩⟩
  · rw [fgt_I H.ay H.by', fgt_I H.cy H.dy, fgt_I H.by' H.cy, flt_I H.ay H.dy, fgt_I H.by' H.dy, flt_I H.ay H.cy, fgt_I H.ay H.cy, flt_I H.by' H.dy, fgt_I H.ay H.dy, flt_I H.by' H.cy]
    clear fu ft fw nu nt nw u1 u2 u3 t1 t2 t3 w1 w2 w3 f1 f2 f3 f4 f5 f6 f7 f8 k1 k2 k3 k4 k5 k6 k7 k8 n1 n2 n3 n4 n5 n6
    repeat' (first | (intro h) | (refine And.intro ?_ ?_))
    all_goals simp only [decide_eq_true_eq, decide_eq_false_iff_not, Int.not_lt] at *
    all_goals first
      | (intro hh; have := hh.1; unfold yMeet at this; omega)
      | exact ⟨0, by unfold yMeet; omega, by simp⟩
  · rw [fgt_I H.ax H.bx, fgt_I H.cx H.dx, fgt_I H.bx H.cx, flt_I H.ax H.dx, fgt_I H.bx H.dx, flt_I H.ax H.cx, fgt_I H.ax H.cx, flt_I H.bx H.dx, fgt_I H.ax H.dx, flt_I H.bx H.cx]
    clear fu ft fw nu nt nw u1 u2 u3 t1 t2 t3 w1 w2 w3 f1 f2 f3 f4 f5 f6 f7 f8 k1 k2 k3 k4 k5 k6 k7 k8 n1 n2 n3 n4 n5 n6
    repeat' (first | (intro h) | (refine And.intro ?_ ?_))
    all_goals simp only [decide_eq_true_eq, decide_eq_false_iff_not, Int.not_lt] at *
    all_goals first
      | (intro hh; have := hh.2.1; unfold yMeet at this; omega)
      | exact ⟨0, ⟨h1, by unfold yMeet; omega⟩, by simp⟩
  · rw [feq_I H.ax H.cx, feq_I H.ay H.cy, feq_I H.ax H.dx, feq_I H.ay H.dy, feq_I H.bx H.cx, feq_I H.by' H.cy, feq_I H.bx H.dx, feq_I H.by' H.dy]
    clear fu ft fw nu nt nw u1 u2 u3 t1 t2 t3 w1 w2 w3 f1 f2 f3 f4 f5 f6 f7 f8 k1 k2 k3 k4 k5 k6 k7 k8 n1 n2 n3 n4 n5 n6
    refine ⟨fun e => ?_, fun e1 => ⟨fun e => ?_, fun e2 => ⟨fun e => ?_, fun e3 => ⟨fun e => ?_, fun e4 => ⟨0, ⟨h2.1, h2.2, fun hh => ?_⟩, by simp⟩⟩⟩⟩⟩
    · exact decide_eq_true ⟨h2.1, h2.2, .inl fun hn => hn (.inl (by simpa using e))⟩
    · exact decide_eq_true ⟨h2.1, h2.2, .inl fun hn => hn (.inr (.inl (by simpa using e)))⟩
    · exact decide_eq_true ⟨h2.1, h2.2, .inl fun hn => hn (.inr (.inr (.inl (by simpa using e))))⟩
    · exact decide_eq_true ⟨h2.1, h2.2, .inl fun hn => hn (.inr (.inr (.inr (by simpa using e))))⟩
    · simp at e1 e2 e3 e4
      rcases hh with ⟨g1, g2⟩ | ⟨g1, g2⟩ | ⟨g1, g2⟩ | ⟨g1, g2⟩
      · exact e1 g1 g2
      · exact e2 g1 g2
      · exact e3 g1 g2
      · exact e4 g1 g2
  · simp only [k1, k2, k3, k4, k5, k6, k7, k8, u1, u2, u3, t1, t2, t3, w1, w2, w3, true_and, zt fu, zt fw, le0 f1, le0 f2, le0 f7, le0 f8]
    refine ⟨⟨0, h3, by simp⟩, fun _ h3 => ⟨⟨fun h0 => ?_, fun h0 => ?_⟩, fun _ h4 => ⟨?_, fun _ h4 => ⟨⟨fun h0 => ?_, fun h0 => ?_⟩, fun _ h5 => ?_⟩⟩⟩⟩
    · have hu := of_decide_eq_true h0
      rw [wh_FI H.ax, wh_FI H.ay, wh_FI H.bx, wh_FI H.by', wh_FI H.cx, wh_FI H.cy, wh_FI H.dx, wh_FI H.dy]
      have hp1 : Pts ax ay bx by' cx cy a1 a2 b1 b2 c1 c2 := by
        unfold small at *
        exact ⟨H.ax, H.ay, H.bx, H.by', H.cx, H.cy, by omega, by omega, by omega, by omega, by omega, by omega⟩
      have hp2 : Pts ax ay bx by' dx dy a1 a2 b1 b2 d1 d2 := by
        unfold small at *
        exact ⟨H.ax, H.ay, H.bx, H.by', H.dx, H.dy, by omega, by omega, by omega, by omega, by omega, by omega⟩
      have hh : ∀ a b c : Int, ((!(decide (c - a ≤ 0) == decide (c - b ≤ 0))) = true ↔ half a b c) := by
        intro a b c
        by_cases g1 : c - a ≤ 0 <;> by_cases g2 : c - b ≤ 0 <;> simp [g1, g2] <;> (unfold half; omega)
      refine ⟨fun e => decide_eq_true ⟨h3.1, h3.2.1, .inr (.inl ⟨hu, .inl ((hh _ _ _).1 e)⟩)⟩, fun e => ⟨fun e' => ⟨hp1, fun o => decide_eq_true ⟨h3.1, h3.2.1, .inr (.inl ⟨hu, .inr (.inr (.inl (of_decide_eq_true o)))⟩)⟩, fun o => ⟨hp2, ?_⟩⟩, fun e' => decide_eq_true ⟨h3.1, h3.2.1, .inr (.inl ⟨hu, .inr (.inl ((hh _ _ _).1 ?_))⟩)⟩⟩⟩
      · refine decide_eq_decide.2 ⟨fun od => ⟨h3.1, h3.2.1, .inr (.inl ⟨hu, .inr (.inr (.inr od))⟩)⟩, fun hi => ?_⟩
        rcases hi.2.2 with g | ⟨_, g | g | g | g⟩ | g
        · exact absurd h3.2.2 g
        · rw [(hh _ _ _).2 g] at e; cases e
        · rw [(hh _ _ _).2 g] at e'; cases e'
        · exact absurd g (of_decide_eq_false o)
        · exact g
        · exact absurd hu g.1
      · revert e'
        cases (decide (c2 - a2 ≤ 0) == decide (c2 - b2 ≤ 0)) <;> simp
    · exact ⟨0, ⟨h3.1, h3.2.1, h3.2.2, of_decide_eq_false h0⟩, trivial⟩
    · exact ⟨0, h4, trivial⟩
    · have hw := of_decide_eq_true h0
      refine decide_eq_false fun hi => ?_
      rcases hi.2.2 with g | g | g
      · exact g h4.2.2.1
      · exact h4.2.2.2 g.1
      · exact g.2.1 hw
    · exact ⟨0, ⟨h4.1, h4.2.1, h4.2.2.1, h4.2.2.2, of_decide_eq_false h0⟩, trivial⟩
    · intro r hr
      obtain ⟨x1, x2, x3⟩ := tu ft fw h5.2.2.2.2 nt nw hr
      obtain ⟨y1, y2, y3⟩ := tu fu fw h5.2.2.2.2 nu nw hr
      refine ⟨x1, y1, ?_⟩
      rw [x2, y2]
      have bad : ¬ (0 ≤ xp (c1 - a1) (c2 - a2) (d1 - c1) (d2 - c2) * xp (b1 - a1) (b2 - a2) (d1 - c1) (d2 - c2) ∧ (xp (c1 - a1) (c2 - a2) (d1 - c1) (d2 - c2)).natAbs ≤ (xp (b1 - a1) (b2 - a2) (d1 - c1) (d2 - c2)).natAbs ∧
          0 ≤ xp (c1 - a1) (c2 - a2) (b1 - a1) (b2 - a2) * xp (b1 - a1) (b2 - a2) (d1 - c1) (d2 - c2) ∧ (xp (c1 - a1) (c2 - a2) (b1 - a1) (b2 - a2)).natAbs ≤ (xp (b1 - a1) (b2 - a2) (d1 - c1) (d2 - c2)).natAbs) → decide (Isec a1 a2 b1 b2 c1 c2 d1 d2) = false := by
        intro hb
        refine decide_eq_false fun hi => ?_
        rcases hi.2.2 with g | g | g
        · exact g h5.2.2.1
        · exact h5.2.2.2.1 g.1
        · exact hb g.2.2
      refine ⟨fun g1 => ⟨fun g2 => ⟨fun g3 => ⟨fun g4 => ?_, fun g4 => ?_⟩, fun g3 => ?_⟩, fun g2 => ?_⟩, fun g1 => ?_⟩
      · have g3 := of_decide_eq_true g3
        rw [y3 g3] at g4
        exact bad fun hb => by simp [hb.2.2.2] at g4
      · have g3 := of_decide_eq_true g3
        have g1 := of_decide_eq_true g1
        rw [y3 g3] at g4
        rw [x3 g1] at g2
        refine decide_eq_true ⟨h5.1, h5.2.1, .inr (.inr ⟨h5.2.2.2.1, h5.2.2.2.2, g1, of_decide_eq_true g2, g3, by simpa using g4⟩)⟩
      · exact bad fun hb => of_decide_eq_false g3 hb.2.2.1
      · have g1 := of_decide_eq_true g1
        rw [x3 g1] at g2
        exact bad fun hb => of_decide_eq_false g2 hb.2.1
      · exact bad fun hb => of_decide_eq_false g1 hb.1

noncomputable def isecF : PF := fun
  | [.agg [.flt .f64 ax, .flt .f64 ay, .flt .f64 bx, .flt .f64 by'], .agg [.flt .f64 cx, .flt .f64 cy, .flt .f64 dx, .flt .f64 dy]] =>
    some (.bool (decide (Isec (wh ax) (wh ay) (wh bx) (wh by') (wh cx) (wh cy) (wh dx) (wh dy))), some (P8 ax ay bx by' cx cy dx dy (wh ax) (wh ay) (wh bx) (wh by') (wh cx) (wh cy) (wh dx) (wh dy)))
  | _ => none
theorem isec : PureOk Try.prog 51 isecF := by
  refine pure_of_vc gIS Try.func51 rfl (by kernel_rfl) ?_
  intro args v p h hp
  unfold isecF at h
  split at h
  · injection h with h; injection h with h1 h2; subst h1; subst h2
    exact ⟨rfl, isec_run hp⟩
  · cases h
end Go.Proofs.Try.Sx
