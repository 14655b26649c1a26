/- FnGeoRect's law. -/
import Derived.Test.YtcjhgngdhdcpeaaRect2
namespace Go.Proofs.Try.Sx
open Go Go.Sx Go.Proofs Go.Fl Go.Geo
set_option maxRecDepth 100000

noncomputable def GRL : Ctx := ⟨⟨tys, FL⟩, [(7, conR isGeoC), (8, pureCon awakeF), (12, pureCon geoRectF), (13, pureCon isRectF), (14, conR rectAskC), (15, pureCon inRectF), (16, pureCon rectInF), (17, pureCon rectsMeetF), (18, conR geoValidCC), (19, conR geoSameC), (20, conR corners4C), (21, conR sameSegC), (22, conR geoSegsC)]⟩
theorem gRL : CtxOk Try.prog GRL := ⟨⟨tysOk, flOk⟩, GamOk.cons isGeo (GamOk.cons (.pure awake) (GamOk.cons (.pure geoRect) (GamOk.cons (.pure isRect) (GamOk.cons rectAsk (GamOk.cons (.pure inRect) (GamOk.cons (.pure rectIn) (GamOk.cons (.pure rectsMeet) (GamOk.cons geoValidC (GamOk.cons geoSame (GamOk.cons corners4 (GamOk.cons sameSeg (GamOk.cons geoSegs GamOk.nil)))))))))))), by kernel_rfl⟩

def i4 (a b c d : Int) : List SV := [.int .i64 a, .int .i64 b, .int .i64 c, .int .i64 d]
def rg (a b c d p q r s x y : Int) : Prop := sm4 a b c d ∧ sm4 p q r s ∧ small x ∧ small y ∧ (a ≤ c ∧ b ≤ d) ∧ (p ≤ r ∧ q ≤ s)
def rl2 (a b c d p q r s x y : Int) (P : Prop) : Fam := ⟨Nat, fun _ =>
  ⟨154, [(3, .ptr 0 0), (4, .ptr 1 0), (5, .ptr 2 0), (7, .ptr 3 0), (8, .ptr 4 0), (9, .ptr 5 0)], [(0, ⟨true, 33, .cells (i4 a b c d), 0⟩), (1, ⟨true, 33, .cells (i4 p q r s), 0⟩), (2, ⟨true, 23, .cells [.int .i64 x, .int .i64 y], 0⟩), (3, ⟨true, 34, .cells (i4 a b c d), 0⟩), (4, ⟨true, 34, .cells (i4 p q r s), 0⟩), (5, ⟨true, 31, .cells [.int .i64 x, .int .i64 y], 0⟩)], 6⟩, fun _ => P, fun _ => 0⟩
def rlH (a b c d p q r s x y : Int) : Heap := [(0, ⟨true, 34, .cells (i4 a b c d), 0⟩), (1, ⟨true, 34, .cells (i4 p q r s), 0⟩), (2, ⟨true, 31, .cells [.int .i64 x, .int .i64 y], 0⟩), (3, ⟨true, 41, .cells (outC a b c d p q r s x y (.slcc 4 5) (.slcc 5 4)), 0⟩), (4, ⟨true, 23, .ints .i64 10 (pts5 a b c d), 2⟩), (5, ⟨true, 33, .ints .i64 16 (sgs4 a b c d), 4⟩)]
def rl5 (a b c d p q r s x y : Int) : Fam := ⟨Nat, fun _ =>
  ⟨154, [(7, .ptr 0 0), (8, .ptr 1 0), (9, .ptr 2 0), (10, .ptr 3 0)], rlH a b c d p q r s x y, 6⟩, fun _ => rg a b c d p q r s x y, fun _ => 0⟩
def rl6 (a b c d p q r s x y : Int) : Fam := ⟨Nat, fun _ =>
  ⟨154, [(7, .ptr 0 0), (8, .ptr 1 0), (9, .ptr 2 0), (10, .ptr 3 0), (11, .bool (hasI a b c d x y))], rlH a b c d p q r s x y, 6⟩, fun _ => rg a b c d p q r s x y, fun _ => 0⟩
def rl9 (a b c d p q r s x y : Int) : Fam := ⟨Nat, fun _ =>
  ⟨154, [(7, .ptr 0 0), (8, .ptr 1 0), (9, .ptr 2 0), (10, .ptr 3 0), (12, .flt .f64 (ofI .f64 ((c - a) * (d - b))))], rlH a b c d p q r s x y, 6⟩, fun _ => rg a b c d p q r s x y, fun _ => 0⟩

theorem fne_I {x y : Nat} {a : Int} (hx : FI x a) (hy : FI y a) : fNe .f64 x y = false := by
  unfold fNe
  rw [ord_I hx hy]
  have : compare a a = .eq := by rw [cmp_int]; simp
  rw [this]; rfl

def lawRectF : PF := fun
  | [.agg [.int .i64 a, .int .i64 b, .int .i64 c, .int .i64 d], .agg [.int .i64 p, .int .i64 q, .int .i64 r, .int .i64 s], .agg [.int .i64 x, .int .i64 y]] => some (.tt, none)
  | _ => none
theorem vc_lawRect (R : SV → Prop) (a b c d p q r s x y : Int) : runA GRL 0 [] [(2, rl2 a b c d p q r s x y True), (4, rl2 a b c d p q r s x y (rg a b c d p q r s x y)), (5, rl5 a b c d p q r s x y), (6, rl6 a b c d p q r s x y), (8, rl5 a b c d p q r s x y), (9, rl9 a b c d p q r s x y), (11, rl5 a b c d p q r s x y)] (codeOf Try.f4) (init Try.f4.ntmps [.agg [.int .i64 a, .int .i64 b, .int .i64 c, .int .i64 d], .agg [.int .i64 p, .int .i64 q, .int .i64 r, .int .i64 s], .agg [.int .i64 x, .int .i64 y]] [] 0) (endK GRL.E.T Try.f4.results.toList fun _ v => R v) = (
  (Bool.true = Bool.true ∧
      ∃ (j : Nat),
        True ∧
          ((True ∧ (0 : Nat) = (0 : Nat)) ∧
              (True ∧ (0 : Nat) = (0 : Nat)) ∧
                (True ∧ (0 : Nat) = (0 : Nat)) ∧
                  (True ∧ (0 : Nat) = (0 : Nat)) ∧
                    (True ∧ (0 : Nat) = (0 : Nat)) ∧ (True ∧ (0 : Nat) = (0 : Nat)) ∧ True) ∧
            True ∧
              ((33 : Nat) = (33 : Nat) ∧ (0 : Nat) = (0 : Nat) ∧ a = a ∧ b = b ∧ c = c ∧ d = d ∧ True) ∧
                True ∧
                  ((33 : Nat) = (33 : Nat) ∧ (0 : Nat) = (0 : Nat) ∧ p = p ∧ q = q ∧ r = r ∧ s = s ∧ True) ∧
                    True ∧
                      ((23 : Nat) = (23 : Nat) ∧ (0 : Nat) = (0 : Nat) ∧ x = x ∧ y = y ∧ True) ∧
                        True ∧
                          ((34 : Nat) = (34 : Nat) ∧ (0 : Nat) = (0 : Nat) ∧ a = a ∧ b = b ∧ c = c ∧ d = d ∧ True) ∧
                            True ∧
                              ((34 : Nat) = (34 : Nat) ∧ (0 : Nat) = (0 : Nat) ∧ p = p ∧ q = q ∧ r = r ∧ s = s ∧ True) ∧
                                True ∧ ((31 : Nat) = (31 : Nat) ∧ (0 : Nat) = (0 : Nat) ∧ x = x ∧ y = y ∧ True) ∧ True) ∧
    ∀ (j : Nat),
      True →
        ((((0 : Int) ≤ (0 : Int) ∧ (0 : Int) < (2 : Int)) ∧ True) ∧
            (((0 : Int) ≤ (1 : Int) ∧ (1 : Int) < (2 : Int)) ∧ True) ∧
              (((0 : Int) ≤ (0 : Int) ∧ (0 : Int) < (2 : Int)) ∧ True) ∧
                (((0 : Int) ≤ (1 : Int) ∧ (1 : Int) < (2 : Int)) ∧ True) ∧
                  (List.length [a, b, c, d, p, q, r, s, x, y] = (10 : Nat) ∧ (5 : Nat) ≤ (1000000 : Nat)) ∧
                    ((!Go.Proofs.Try.Sx.geoAll (List.length [a, b, c, d, p, q, r, s, x, y]) fun (i : Nat) =>
                              List.getD [a, b, c, d, p, q, r, s, x, y] i (0 : Int)) =
                          Bool.true →
                        R Go.Sx.SV.tt) ∧
                      ((!Go.Proofs.Try.Sx.geoAll (List.length [a, b, c, d, p, q, r, s, x, y]) fun (i : Nat) =>
                              List.getD [a, b, c, d, p, q, r, s, x, y] i (0 : Int)) =
                          Bool.false →
                        ((!Decidable.decide (a ≤ c ∧ b ≤ d)) = Bool.true → R Go.Sx.SV.tt) ∧
                          ((!Decidable.decide (a ≤ c ∧ b ≤ d)) = Bool.false →
                            ((!Decidable.decide (p ≤ r ∧ q ≤ s)) = Bool.true → R Go.Sx.SV.tt) ∧
                              ((!Decidable.decide (p ≤ r ∧ q ≤ s)) = Bool.false →
                                ∃ (j : Nat),
                                  Go.Proofs.Try.Sx.rg a b c d p q r s x y ∧
                                    ((True ∧ (0 : Nat) = (0 : Nat)) ∧
                                        (True ∧ (0 : Nat) = (0 : Nat)) ∧
                                          (True ∧ (0 : Nat) = (0 : Nat)) ∧
                                            (True ∧ (0 : Nat) = (0 : Nat)) ∧
                                              (True ∧ (0 : Nat) = (0 : Nat)) ∧ (True ∧ (0 : Nat) = (0 : Nat)) ∧ True) ∧
                                      True ∧
                                        ((33 : Nat) = (33 : Nat) ∧
                                            (0 : Nat) = (0 : Nat) ∧ a = a ∧ b = b ∧ c = c ∧ d = d ∧ True) ∧
                                          True ∧
                                            ((33 : Nat) = (33 : Nat) ∧
                                                (0 : Nat) = (0 : Nat) ∧ p = p ∧ q = q ∧ r = r ∧ s = s ∧ True) ∧
                                              True ∧
                                                ((23 : Nat) = (23 : Nat) ∧ (0 : Nat) = (0 : Nat) ∧ x = x ∧ y = y ∧ True) ∧
                                                  True ∧
                                                    ((34 : Nat) = (34 : Nat) ∧
                                                        (0 : Nat) = (0 : Nat) ∧ a = a ∧ b = b ∧ c = c ∧ d = d ∧ True) ∧
                                                      True ∧
                                                        ((34 : Nat) = (34 : Nat) ∧
                                                            (0 : Nat) = (0 : Nat) ∧
                                                              p = p ∧ q = q ∧ r = r ∧ s = s ∧ True) ∧
                                                          True ∧
                                                            ((31 : Nat) = (31 : Nat) ∧
                                                                (0 : Nat) = (0 : Nat) ∧ x = x ∧ y = y ∧ True) ∧
                                                              True)))) ∧
          ∀ (j : Nat),
            Go.Proofs.Try.Sx.rg a b c d p q r s x y →
              ((Go.Proofs.Try.Sx.sm4 a b c d ∧
                    Go.Proofs.Try.Sx.sm4 p q r s ∧ Go.Proofs.Try.Sx.small x ∧ Go.Proofs.Try.Sx.small y) ∧
                  ∃ (j : Nat),
                    Go.Proofs.Try.Sx.rg a b c d p q r s x y ∧
                      ((True ∧ (0 : Nat) = (0 : Nat)) ∧
                          (True ∧ (0 : Nat) = (0 : Nat)) ∧
                            (True ∧ (0 : Nat) = (0 : Nat)) ∧ (True ∧ (0 : Nat) = (0 : Nat)) ∧ True) ∧
                        True ∧
                          ((34 : Nat) = (34 : Nat) ∧ (0 : Nat) = (0 : Nat) ∧ a = a ∧ b = b ∧ c = c ∧ d = d ∧ True) ∧
                            True ∧
                              ((34 : Nat) = (34 : Nat) ∧ (0 : Nat) = (0 : Nat) ∧ p = p ∧ q = q ∧ r = r ∧ s = s ∧ True) ∧
                                True ∧
                                  ((31 : Nat) = (31 : Nat) ∧ (0 : Nat) = (0 : Nat) ∧ x = x ∧ y = y ∧ True) ∧
                                    True ∧
                                      ((41 : Nat) = (41 : Nat) ∧
                                          (0 : Nat) = (0 : Nat) ∧
                                            Go.Proofs.Try.Sx.hasI a b c d x y = Go.Proofs.Try.Sx.hasI a b c d x y ∧
                                              Go.Proofs.Try.Sx.hasI a b c d x y = Go.Proofs.Try.Sx.hasI a b c d x y ∧
                                                Go.Proofs.Try.Sx.inI a b c d p q r s =
                                                    Go.Proofs.Try.Sx.inI a b c d p q r s ∧
                                                  Go.Proofs.Try.Sx.meetI a b c d p q r s =
                                                      Go.Proofs.Try.Sx.meetI a b c d p q r s ∧
                                                    True ∧
                                                      (Go.Proofs.Try.Sx.vld a b && Go.Proofs.Try.Sx.vld c d) =
                                                          (Go.Proofs.Try.Sx.vld a b && Go.Proofs.Try.Sx.vld c d) ∧
                                                        True ∧
                                                          True ∧
                                                            Go.Proofs.Try.Sx.area a b c d =
                                                                Go.Proofs.Try.Sx.area a b c d ∧
                                                              a + c = a + c ∧
                                                                b + d = b + d ∧
                                                                  (True ∧ (5 : Nat) = (5 : Nat)) ∧
                                                                    (True ∧ (4 : Nat) = (4 : Nat)) ∧ True) ∧
                                        True ∧
                                          ((23 : Nat) = (23 : Nat) ∧
                                              (2 : Nat) = (2 : Nat) ∧
                                                (10 : Nat) ≤ (10 : Nat) ∧
                                                  ∀ (i : Nat),
                                                    i < (10 : Nat) →
                                                      Go.Proofs.Try.Sx.pts5 a b c d i = Go.Proofs.Try.Sx.pts5 a b c d i) ∧
                                            True ∧
                                              ((33 : Nat) = (33 : Nat) ∧
                                                  (4 : Nat) = (4 : Nat) ∧
                                                    (16 : Nat) ≤ (16 : Nat) ∧
                                                      ∀ (i : Nat),
                                                        i < (16 : Nat) →
                                                          Go.Proofs.Try.Sx.sgs4 a b c d i =
                                                            Go.Proofs.Try.Sx.sgs4 a b c d i) ∧
                                                True) ∧
                ∀ (j : Nat),
                  Go.Proofs.Try.Sx.rg a b c d p q r s x y →
                    (∃ (j : Nat),
                        Go.Proofs.Try.Sx.rg a b c d p q r s x y ∧
                          ((True ∧ (0 : Nat) = (0 : Nat)) ∧
                              (True ∧ (0 : Nat) = (0 : Nat)) ∧
                                (True ∧ (0 : Nat) = (0 : Nat)) ∧
                                  (True ∧ (0 : Nat) = (0 : Nat)) ∧
                                    Decidable.decide (Go.Geo.btw a c x ∧ Go.Geo.btw b d y) =
                                        Go.Proofs.Try.Sx.hasI a b c d x y ∧
                                      True) ∧
                            True ∧
                              ((34 : Nat) = (34 : Nat) ∧ (0 : Nat) = (0 : Nat) ∧ a = a ∧ b = b ∧ c = c ∧ d = d ∧ True) ∧
                                True ∧
                                  ((34 : Nat) = (34 : Nat) ∧
                                      (0 : Nat) = (0 : Nat) ∧ p = p ∧ q = q ∧ r = r ∧ s = s ∧ True) ∧
                                    True ∧
                                      ((31 : Nat) = (31 : Nat) ∧ (0 : Nat) = (0 : Nat) ∧ x = x ∧ y = y ∧ True) ∧
                                        True ∧
                                          ((41 : Nat) = (41 : Nat) ∧
                                              (0 : Nat) = (0 : Nat) ∧
                                                Go.Proofs.Try.Sx.hasI a b c d x y = Go.Proofs.Try.Sx.hasI a b c d x y ∧
                                                  Go.Proofs.Try.Sx.hasI a b c d x y = Go.Proofs.Try.Sx.hasI a b c d x y ∧
                                                    Go.Proofs.Try.Sx.inI a b c d p q r s =
                                                        Go.Proofs.Try.Sx.inI a b c d p q r s ∧
                                                      Go.Proofs.Try.Sx.meetI a b c d p q r s =
                                                          Go.Proofs.Try.Sx.meetI a b c d p q r s ∧
                                                        True ∧
                                                          (Go.Proofs.Try.Sx.vld a b && Go.Proofs.Try.Sx.vld c d) =
                                                              (Go.Proofs.Try.Sx.vld a b && Go.Proofs.Try.Sx.vld c d) ∧
                                                            True ∧
                                                              True ∧
                                                                Go.Proofs.Try.Sx.area a b c d =
                                                                    Go.Proofs.Try.Sx.area a b c d ∧
                                                                  a + c = a + c ∧
                                                                    b + d = b + d ∧
                                                                      (True ∧ (5 : Nat) = (5 : Nat)) ∧
                                                                        (True ∧ (4 : Nat) = (4 : Nat)) ∧ True) ∧
                                            True ∧
                                              ((23 : Nat) = (23 : Nat) ∧
                                                  (2 : Nat) = (2 : Nat) ∧
                                                    (10 : Nat) ≤ (10 : Nat) ∧
                                                      ∀ (i : Nat),
                                                        i < (10 : Nat) →
                                                          Go.Proofs.Try.Sx.pts5 a b c d i =
                                                            Go.Proofs.Try.Sx.pts5 a b c d i) ∧
                                                True ∧
                                                  ((33 : Nat) = (33 : Nat) ∧
                                                      (4 : Nat) = (4 : Nat) ∧
                                                        (16 : Nat) ≤ (16 : Nat) ∧
                                                          ∀ (i : Nat),
                                                            i < (16 : Nat) →
                                                              Go.Proofs.Try.Sx.sgs4 a b c d i =
                                                                Go.Proofs.Try.Sx.sgs4 a b c d i) ∧
                                                    True) ∧
                      ∀ (j : Nat),
                        Go.Proofs.Try.Sx.rg a b c d p q r s x y →
                          (((!Go.Proofs.Try.Sx.hasI a b c d x y == Go.Proofs.Try.Sx.hasI a b c d x y) = Bool.true →
                                (!Go.Proofs.Try.Sx.hasI a b c d x y == Go.Proofs.Try.Sx.hasI a b c d x y) = Bool.true ∧
                                  Bool.true = Bool.true ∧ R Go.Sx.SV.ff) ∧
                              ((!Go.Proofs.Try.Sx.hasI a b c d x y == Go.Proofs.Try.Sx.hasI a b c d x y) = Bool.false →
                                ((!Go.Proofs.Try.Sx.hasI a b c d x y == Go.Proofs.Try.Sx.hasI a b c d x y) = Bool.true →
                                    (!Go.Proofs.Try.Sx.hasI a b c d x y == Go.Proofs.Try.Sx.hasI a b c d x y) =
                                        Bool.false ∧
                                      (!Go.Proofs.Try.Sx.hasI a b c d x y == Go.Proofs.Try.Sx.hasI a b c d x y) =
                                          Bool.true ∧
                                        Bool.true = Bool.true ∧ R Go.Sx.SV.ff) ∧
                                  ((!Go.Proofs.Try.Sx.hasI a b c d x y == Go.Proofs.Try.Sx.hasI a b c d x y) =
                                      Bool.false →
                                    ((!Go.Proofs.Try.Sx.inI a b c d p q r s ==
                                              Decidable.decide
                                                ((Go.Geo.btw a c p ∧ Go.Geo.btw b d q) ∧
                                                  Go.Geo.btw a c r ∧ Go.Geo.btw b d s)) =
                                          Bool.true →
                                        (!Go.Proofs.Try.Sx.hasI a b c d x y == Go.Proofs.Try.Sx.hasI a b c d x y) =
                                            Bool.false ∧
                                          (!Go.Proofs.Try.Sx.hasI a b c d x y == Go.Proofs.Try.Sx.hasI a b c d x y) =
                                              Bool.false ∧
                                            (!Go.Proofs.Try.Sx.inI a b c d p q r s ==
                                                    Decidable.decide
                                                      ((Go.Geo.btw a c p ∧ Go.Geo.btw b d q) ∧
                                                        Go.Geo.btw a c r ∧ Go.Geo.btw b d s)) =
                                                Bool.true ∧
                                              Bool.true = Bool.true ∧ R Go.Sx.SV.ff) ∧
                                      ((!Go.Proofs.Try.Sx.inI a b c d p q r s ==
                                              Decidable.decide
                                                ((Go.Geo.btw a c p ∧ Go.Geo.btw b d q) ∧
                                                  Go.Geo.btw a c r ∧ Go.Geo.btw b d s)) =
                                          Bool.false →
                                        (!Go.Proofs.Try.Sx.hasI a b c d x y == Go.Proofs.Try.Sx.hasI a b c d x y) =
                                            Bool.false ∧
                                          (!Go.Proofs.Try.Sx.hasI a b c d x y == Go.Proofs.Try.Sx.hasI a b c d x y) =
                                              Bool.false ∧
                                            (!Go.Proofs.Try.Sx.inI a b c d p q r s ==
                                                    Decidable.decide
                                                      ((Go.Geo.btw a c p ∧ Go.Geo.btw b d q) ∧
                                                        Go.Geo.btw a c r ∧ Go.Geo.btw b d s)) =
                                                Bool.false ∧
                                              Bool.true = Bool.true ∧
                                                ((!Go.Proofs.Try.Sx.meetI a b c d p q r s ==
                                                          Decidable.decide (a ≤ r ∧ p ≤ c ∧ b ≤ s ∧ q ≤ d)) =
                                                      Bool.true →
                                                    R Go.Sx.SV.ff) ∧
                                                  ((!Go.Proofs.Try.Sx.meetI a b c d p q r s ==
                                                          Decidable.decide (a ≤ r ∧ p ≤ c ∧ b ≤ s ∧ q ≤ d)) =
                                                      Bool.false →
                                                    ∃ (j : Nat),
                                                      Go.Proofs.Try.Sx.rg a b c d p q r s x y ∧
                                                        ((True ∧ (0 : Nat) = (0 : Nat)) ∧
                                                            (True ∧ (0 : Nat) = (0 : Nat)) ∧
                                                              (True ∧ (0 : Nat) = (0 : Nat)) ∧
                                                                (True ∧ (0 : Nat) = (0 : Nat)) ∧ True) ∧
                                                          True ∧
                                                            ((34 : Nat) = (34 : Nat) ∧
                                                                (0 : Nat) = (0 : Nat) ∧
                                                                  a = a ∧ b = b ∧ c = c ∧ d = d ∧ True) ∧
                                                              True ∧
                                                                ((34 : Nat) = (34 : Nat) ∧
                                                                    (0 : Nat) = (0 : Nat) ∧
                                                                      p = p ∧ q = q ∧ r = r ∧ s = s ∧ True) ∧
                                                                  True ∧
                                                                    ((31 : Nat) = (31 : Nat) ∧
                                                                        (0 : Nat) = (0 : Nat) ∧ x = x ∧ y = y ∧ True) ∧
                                                                      True ∧
                                                                        ((41 : Nat) = (41 : Nat) ∧
                                                                            (0 : Nat) = (0 : Nat) ∧
                                                                              Go.Proofs.Try.Sx.hasI a b c d x y =
                                                                                  Go.Proofs.Try.Sx.hasI a b c d x y ∧
                                                                                Go.Proofs.Try.Sx.hasI a b c d x y =
                                                                                    Go.Proofs.Try.Sx.hasI a b c d x y ∧
                                                                                  Go.Proofs.Try.Sx.inI a b c d p q r s =
                                                                                      Go.Proofs.Try.Sx.inI a b c d p q r
                                                                                        s ∧
                                                                                    Go.Proofs.Try.Sx.meetI a b c d p q r
                                                                                          s =
                                                                                        Go.Proofs.Try.Sx.meetI a b c d p q
                                                                                          r s ∧
                                                                                      True ∧
                                                                                        (Go.Proofs.Try.Sx.vld a b &&
                                                                                              Go.Proofs.Try.Sx.vld c d) =
                                                                                            (Go.Proofs.Try.Sx.vld a b &&
                                                                                              Go.Proofs.Try.Sx.vld c d) ∧
                                                                                          True ∧
                                                                                            True ∧
                                                                                              Go.Proofs.Try.Sx.area a b c
                                                                                                    d =
                                                                                                  Go.Proofs.Try.Sx.area a
                                                                                                    b c d ∧
                                                                                                a + c = a + c ∧
                                                                                                  b + d = b + d ∧
                                                                                                    (True ∧
                                                                                                        (5 : Nat) =
                                                                                                          (5 : Nat)) ∧
                                                                                                      (True ∧
                                                                                                          (4 : Nat) =
                                                                                                            (4 : Nat)) ∧
                                                                                                        True) ∧
                                                                          True ∧
                                                                            ((23 : Nat) = (23 : Nat) ∧
                                                                                (2 : Nat) = (2 : Nat) ∧
                                                                                  (10 : Nat) ≤ (10 : Nat) ∧
                                                                                    ∀ (i : Nat),
                                                                                      i < (10 : Nat) →
                                                                                        Go.Proofs.Try.Sx.pts5 a b c d i =
                                                                                          Go.Proofs.Try.Sx.pts5 a b c d
                                                                                            i) ∧
                                                                              True ∧
                                                                                ((33 : Nat) = (33 : Nat) ∧
                                                                                    (4 : Nat) = (4 : Nat) ∧
                                                                                      (16 : Nat) ≤ (16 : Nat) ∧
                                                                                        ∀ (i : Nat),
                                                                                          i < (16 : Nat) →
                                                                                            Go.Proofs.Try.Sx.sgs4 a b c d
                                                                                                i =
                                                                                              Go.Proofs.Try.Sx.sgs4 a b c
                                                                                                d i) ∧
                                                                                  True))))) ∧
                            ∀ (j : Nat),
                              Go.Proofs.Try.Sx.rg a b c d p q r s x y →
                                ((((0 : Int) ≤ (1 : Int) ∧ (1 : Int) < (2 : Int)) ∧ True) ∧
                                    (((0 : Int) ≤ (0 : Int) ∧ (0 : Int) < (2 : Int)) ∧ True) ∧
                                      (((0 : Int) ≤ (1 : Int) ∧ (1 : Int) < (2 : Int)) ∧ True) ∧
                                        (((0 : Int) ≤ (0 : Int) ∧ (0 : Int) < (2 : Int)) ∧ True) ∧
                                          ∃ (j : Nat),
                                            Go.Proofs.Try.Sx.rg a b c d p q r s x y ∧
                                              ((True ∧ (0 : Nat) = (0 : Nat)) ∧
                                                  (True ∧ (0 : Nat) = (0 : Nat)) ∧
                                                    (True ∧ (0 : Nat) = (0 : Nat)) ∧
                                                      (True ∧ (0 : Nat) = (0 : Nat)) ∧
                                                        Go.Sx.ofI Go.FloatKind.f64
                                                              (Go.IntKind.wrap Go.IntKind.i64
                                                                (Go.IntKind.wrap Go.IntKind.i64 (c - a) *
                                                                  Go.IntKind.wrap Go.IntKind.i64 (d - b))) =
                                                            Go.Sx.ofI Go.FloatKind.f64 ((c - a) * (d - b)) ∧
                                                          True) ∧
                                                True ∧
                                                  ((34 : Nat) = (34 : Nat) ∧
                                                      (0 : Nat) = (0 : Nat) ∧ a = a ∧ b = b ∧ c = c ∧ d = d ∧ True) ∧
                                                    True ∧
                                                      ((34 : Nat) = (34 : Nat) ∧
                                                          (0 : Nat) = (0 : Nat) ∧ p = p ∧ q = q ∧ r = r ∧ s = s ∧ True) ∧
                                                        True ∧
                                                          ((31 : Nat) = (31 : Nat) ∧
                                                              (0 : Nat) = (0 : Nat) ∧ x = x ∧ y = y ∧ True) ∧
                                                            True ∧
                                                              ((41 : Nat) = (41 : Nat) ∧
                                                                  (0 : Nat) = (0 : Nat) ∧
                                                                    Go.Proofs.Try.Sx.hasI a b c d x y =
                                                                        Go.Proofs.Try.Sx.hasI a b c d x y ∧
                                                                      Go.Proofs.Try.Sx.hasI a b c d x y =
                                                                          Go.Proofs.Try.Sx.hasI a b c d x y ∧
                                                                        Go.Proofs.Try.Sx.inI a b c d p q r s =
                                                                            Go.Proofs.Try.Sx.inI a b c d p q r s ∧
                                                                          Go.Proofs.Try.Sx.meetI a b c d p q r s =
                                                                              Go.Proofs.Try.Sx.meetI a b c d p q r s ∧
                                                                            True ∧
                                                                              (Go.Proofs.Try.Sx.vld a b &&
                                                                                    Go.Proofs.Try.Sx.vld c d) =
                                                                                  (Go.Proofs.Try.Sx.vld a b &&
                                                                                    Go.Proofs.Try.Sx.vld c d) ∧
                                                                                True ∧
                                                                                  True ∧
                                                                                    Go.Proofs.Try.Sx.area a b c d =
                                                                                        Go.Proofs.Try.Sx.area a b c d ∧
                                                                                      a + c = a + c ∧
                                                                                        b + d = b + d ∧
                                                                                          (True ∧ (5 : Nat) = (5 : Nat)) ∧
                                                                                            (True ∧
                                                                                                (4 : Nat) = (4 : Nat)) ∧
                                                                                              True) ∧
                                                                True ∧
                                                                  ((23 : Nat) = (23 : Nat) ∧
                                                                      (2 : Nat) = (2 : Nat) ∧
                                                                        (10 : Nat) ≤ (10 : Nat) ∧
                                                                          ∀ (i : Nat),
                                                                            i < (10 : Nat) →
                                                                              Go.Proofs.Try.Sx.pts5 a b c d i =
                                                                                Go.Proofs.Try.Sx.pts5 a b c d i) ∧
                                                                    True ∧
                                                                      ((33 : Nat) = (33 : Nat) ∧
                                                                          (4 : Nat) = (4 : Nat) ∧
                                                                            (16 : Nat) ≤ (16 : Nat) ∧
                                                                              ∀ (i : Nat),
                                                                                i < (16 : Nat) →
                                                                                  Go.Proofs.Try.Sx.sgs4 a b c d i =
                                                                                    Go.Proofs.Try.Sx.sgs4 a b c d i) ∧
                                                                        True) ∧
                                  ∀ (j : Nat),
                                    Go.Proofs.Try.Sx.rg a b c d p q r s x y →
                                      (((!(Go.Proofs.Try.Sx.vld a b && Go.Proofs.Try.Sx.vld c d) ==
                                                  Go.Proofs.Try.Sx.geoValid (2 : Nat) fun (i : Nat) =>
                                                    List.getD [a, b, c, d] i (0 : Int)) =
                                              Bool.true →
                                            (((0 : Int) ≤ (0 : Int) ∧ (0 : Int) < (2 : Int)) ∧ True) ∧
                                              (((0 : Int) ≤ (1 : Int) ∧ (1 : Int) < (2 : Int)) ∧ True) ∧
                                                (List.length [a, b, c, d] = (4 : Nat) ∧ (2 : Nat) ≤ (1000000 : Nat)) ∧
                                                  (!(Go.Proofs.Try.Sx.vld a b && Go.Proofs.Try.Sx.vld c d) ==
                                                          Go.Proofs.Try.Sx.geoValid (2 : Nat) fun (i : Nat) =>
                                                            List.getD [a, b, c, d] i (0 : Int)) =
                                                      Bool.true ∧
                                                    Bool.true = Bool.true ∧ R Go.Sx.SV.ff) ∧
                                          ((!(Go.Proofs.Try.Sx.vld a b && Go.Proofs.Try.Sx.vld c d) ==
                                                  Go.Proofs.Try.Sx.geoValid (2 : Nat) fun (i : Nat) =>
                                                    List.getD [a, b, c, d] i (0 : Int)) =
                                              Bool.false →
                                            (Go.Sx.fNe Go.FloatKind.f64 (Go.Proofs.Try.Sx.area a b c d)
                                                    (Go.Sx.ofI Go.FloatKind.f64 ((c - a) * (d - b))) =
                                                  Bool.true →
                                                (((0 : Int) ≤ (0 : Int) ∧ (0 : Int) < (2 : Int)) ∧ True) ∧
                                                  (((0 : Int) ≤ (1 : Int) ∧ (1 : Int) < (2 : Int)) ∧ True) ∧
                                                    (List.length [a, b, c, d] = (4 : Nat) ∧ (2 : Nat) ≤ (1000000 : Nat)) ∧
                                                      (!(Go.Proofs.Try.Sx.vld a b && Go.Proofs.Try.Sx.vld c d) ==
                                                              Go.Proofs.Try.Sx.geoValid (2 : Nat) fun (i : Nat) =>
                                                                List.getD [a, b, c, d] i (0 : Int)) =
                                                          Bool.false ∧
                                                        Go.Sx.fNe Go.FloatKind.f64 (Go.Proofs.Try.Sx.area a b c d)
                                                              (Go.Sx.ofI Go.FloatKind.f64 ((c - a) * (d - b))) =
                                                            Bool.true ∧
                                                          Bool.true = Bool.true ∧ R Go.Sx.SV.ff) ∧
                                              (Go.Sx.fNe Go.FloatKind.f64 (Go.Proofs.Try.Sx.area a b c d)
                                                    (Go.Sx.ofI Go.FloatKind.f64 ((c - a) * (d - b))) =
                                                  Bool.false →
                                                (((0 : Int) ≤ (0 : Int) ∧ (0 : Int) < (2 : Int)) ∧ True) ∧
                                                  (((0 : Int) ≤ (1 : Int) ∧ (1 : Int) < (2 : Int)) ∧ True) ∧
                                                    (List.length [a, b, c, d] = (4 : Nat) ∧ (2 : Nat) ≤ (1000000 : Nat)) ∧
                                                      (!(Go.Proofs.Try.Sx.vld a b && Go.Proofs.Try.Sx.vld c d) ==
                                                              Go.Proofs.Try.Sx.geoValid (2 : Nat) fun (i : Nat) =>
                                                                List.getD [a, b, c, d] i (0 : Int)) =
                                                          Bool.false ∧
                                                        Go.Sx.fNe Go.FloatKind.f64 (Go.Proofs.Try.Sx.area a b c d)
                                                              (Go.Sx.ofI Go.FloatKind.f64 ((c - a) * (d - b))) =
                                                            Bool.false ∧
                                                          (((0 : Int) ≤ (0 : Int) ∧ (0 : Int) < (2 : Int)) ∧ True) ∧
                                                            (((0 : Int) ≤ (1 : Int) ∧ (1 : Int) < (2 : Int)) ∧ True) ∧
                                                              (((0 : Int) ≤ (0 : Int) ∧ (0 : Int) < (2 : Int)) ∧ True) ∧
                                                                (((0 : Int) ≤ (1 : Int) ∧ (1 : Int) < (2 : Int)) ∧ True) ∧
                                                                  Bool.true = Bool.true ∧
                                                                    ((!(a + c == Go.IntKind.wrap Go.IntKind.i64 (a + c) &&
                                                                              (b + d ==
                                                                                  Go.IntKind.wrap Go.IntKind.i64
                                                                                    (b + d) &&
                                                                                Bool.true))) =
                                                                          Bool.true →
                                                                        R Go.Sx.SV.ff) ∧
                                                                      ((!(a + c ==
                                                                                Go.IntKind.wrap Go.IntKind.i64 (a + c) &&
                                                                              (b + d ==
                                                                                  Go.IntKind.wrap Go.IntKind.i64
                                                                                    (b + d) &&
                                                                                Bool.true))) =
                                                                          Bool.false →
                                                                        ∃ (j : Nat),
                                                                          Go.Proofs.Try.Sx.rg a b c d p q r s x y ∧
                                                                            ((True ∧ (0 : Nat) = (0 : Nat)) ∧
                                                                                (True ∧ (0 : Nat) = (0 : Nat)) ∧
                                                                                  (True ∧ (0 : Nat) = (0 : Nat)) ∧
                                                                                    (True ∧ (0 : Nat) = (0 : Nat)) ∧
                                                                                      True) ∧
                                                                              True ∧
                                                                                ((34 : Nat) = (34 : Nat) ∧
                                                                                    (0 : Nat) = (0 : Nat) ∧
                                                                                      a = a ∧
                                                                                        b = b ∧ c = c ∧ d = d ∧ True) ∧
                                                                                  True ∧
                                                                                    ((34 : Nat) = (34 : Nat) ∧
                                                                                        (0 : Nat) = (0 : Nat) ∧
                                                                                          p = p ∧
                                                                                            q = q ∧
                                                                                              r = r ∧ s = s ∧ True) ∧
                                                                                      True ∧
                                                                                        ((31 : Nat) = (31 : Nat) ∧
                                                                                            (0 : Nat) = (0 : Nat) ∧
                                                                                              x = x ∧ y = y ∧ True) ∧
                                                                                          True ∧
                                                                                            ((41 : Nat) = (41 : Nat) ∧
                                                                                                (0 : Nat) = (0 : Nat) ∧
                                                                                                  Go.Proofs.Try.Sx.hasI a
                                                                                                        b c d x y =
                                                                                                      Go.Proofs.Try.Sx.hasI
                                                                                                        a b c d x y ∧
                                                                                                    Go.Proofs.Try.Sx.hasI
                                                                                                          a b c d x y =
                                                                                                        Go.Proofs.Try.Sx.hasI
                                                                                                          a b c d x y ∧
                                                                                                      Go.Proofs.Try.Sx.inI
                                                                                                            a b c d p q r
                                                                                                            s =
                                                                                                          Go.Proofs.Try.Sx.inI
                                                                                                            a b c d p q r
                                                                                                            s ∧
                                                                                                        Go.Proofs.Try.Sx.meetI
                                                                                                              a b c d p q
                                                                                                              r s =
                                                                                                            Go.Proofs.Try.Sx.meetI
                                                                                                              a b c d p q
                                                                                                              r s ∧
                                                                                                          True ∧
                                                                                                            (Go.Proofs.Try.Sx.vld
                                                                                                                    a b &&
                                                                                                                  Go.Proofs.Try.Sx.vld
                                                                                                                    c d) =
                                                                                                                (Go.Proofs.Try.Sx.vld
                                                                                                                    a b &&
                                                                                                                  Go.Proofs.Try.Sx.vld
                                                                                                                    c d) ∧
                                                                                                              True ∧
                                                                                                                True ∧
                                                                                                                  Go.Proofs.Try.Sx.area
                                                                                                                        a
                                                                                                                        b
                                                                                                                        c
                                                                                                                        d =
                                                                                                                      Go.Proofs.Try.Sx.area
                                                                                                                        a
                                                                                                                        b
                                                                                                                        c
                                                                                                                        d ∧
                                                                                                                    a +
                                                                                                                          c =
                                                                                                                        a +
                                                                                                                          c ∧
                                                                                                                      b +
                                                                                                                            d =
                                                                                                                          b +
                                                                                                                            d ∧
                                                                                                                        (True ∧
                                                                                                                            (5 :
                                                                                                                                Nat) =
                                                                                                                              (5 :
                                                                                                                                Nat)) ∧
                                                                                                                          (True ∧
                                                                                                                              (4 :
                                                                                                                                  Nat) =
                                                                                                                                (4 :
                                                                                                                                  Nat)) ∧
                                                                                                                            True) ∧
                                                                                              True ∧
                                                                                                ((23 : Nat) = (23 : Nat) ∧
                                                                                                    (2 : Nat) =
                                                                                                        (2 : Nat) ∧
                                                                                                      (10 : Nat) ≤
                                                                                                          (10 : Nat) ∧
                                                                                                        ∀ (i : Nat),
                                                                                                          i < (10 : Nat) →
                                                                                                            Go.Proofs.Try.Sx.pts5
                                                                                                                a b c d
                                                                                                                i =
                                                                                                              Go.Proofs.Try.Sx.pts5
                                                                                                                a b c d
                                                                                                                i) ∧
                                                                                                  True ∧
                                                                                                    ((33 : Nat) =
                                                                                                          (33 : Nat) ∧
                                                                                                        (4 : Nat) =
                                                                                                            (4 : Nat) ∧
                                                                                                          (16 : Nat) ≤
                                                                                                              (16 : Nat) ∧
                                                                                                            ∀ (i : Nat),
                                                                                                              i <
                                                                                                                  (16 :
                                                                                                                    Nat) →
                                                                                                                Go.Proofs.Try.Sx.sgs4
                                                                                                                    a b c
                                                                                                                    d i =
                                                                                                                  Go.Proofs.Try.Sx.sgs4
                                                                                                                    a b c
                                                                                                                    d i) ∧
                                                                                                      True)))) ∧
                                        ∀ (j : Nat),
                                          Go.Proofs.Try.Sx.rg a b c d p q r s x y →
                                            (Decidable.decide
                                                    (Go.Proofs.Try.Sx.agree (10 : Nat) (Go.Proofs.Try.Sx.pts5 a b c d)
                                                      fun (i : Nat) =>
                                                      List.getD [a, b, c, b, c, d, a, d, a, b] i (0 : Int)) =
                                                  Bool.true →
                                                (Decidable.decide
                                                        (Go.Proofs.Try.Sx.agree (16 : Nat) (Go.Proofs.Try.Sx.sgs4 a b c d)
                                                          (Go.Proofs.Try.Sx.segI
                                                            (fun (i : Nat) =>
                                                              List.getD [a, b, c, b, c, d, a, d, a, b] i (0 : Int))
                                                            (5 : Nat))) =
                                                      Bool.true →
                                                    True ∧
                                                      ((5 : Nat) = (5 : Nat) ∧
                                                          (10 : Nat) = (10 : Nat) ∧
                                                            List.length [a, b, c, b, c, d, a, d, a, b] = (10 : Nat) ∧
                                                              (5 : Nat) ≤ (1000000 : Nat)) ∧
                                                        Decidable.decide
                                                              (Go.Proofs.Try.Sx.agree (10 : Nat)
                                                                (Go.Proofs.Try.Sx.pts5 a b c d) fun (i : Nat) =>
                                                                List.getD [a, b, c, b, c, d, a, d, a, b] i (0 : Int)) =
                                                            Bool.true ∧
                                                          True ∧
                                                            (List.length [a, b, c, b, c, d, a, d, a, b] = (10 : Nat) ∧
                                                                (5 : Nat) ≤ (1000000 : Nat)) ∧
                                                              (((4 : Nat) =
                                                                    Go.Proofs.Try.Sx.nsegs (5 : Nat) Bool.true
                                                                      fun (i : Nat) =>
                                                                      List.getD [a, b, c, b, c, d, a, d, a, b] i
                                                                        (0 : Int)) ∧
                                                                  (16 : Nat) = (16 : Nat) ∧
                                                                    ((4 : Nat) *
                                                                          Go.Proofs.Try.Sx.nsegs (5 : Nat) Bool.true
                                                                            fun (i : Nat) =>
                                                                            List.getD [a, b, c, b, c, d, a, d, a, b] i
                                                                              (0 : Int)) =
                                                                        (16 : Nat) ∧
                                                                      (4 : Nat) ≤ (1000000 : Nat)) ∧
                                                                Decidable.decide
                                                                      (Go.Proofs.Try.Sx.agree (16 : Nat)
                                                                        (Go.Proofs.Try.Sx.sgs4 a b c d)
                                                                        (Go.Proofs.Try.Sx.segI
                                                                          (fun (i : Nat) =>
                                                                            List.getD [a, b, c, b, c, d, a, d, a, b] i
                                                                              (0 : Int))
                                                                          (5 : Nat))) =
                                                                    Bool.true ∧
                                                                  Bool.true = Bool.true ∧ R Go.Sx.SV.tt) ∧
                                                  (Decidable.decide
                                                        (Go.Proofs.Try.Sx.agree (16 : Nat) (Go.Proofs.Try.Sx.sgs4 a b c d)
                                                          (Go.Proofs.Try.Sx.segI
                                                            (fun (i : Nat) =>
                                                              List.getD [a, b, c, b, c, d, a, d, a, b] i (0 : Int))
                                                            (5 : Nat))) =
                                                      Bool.false →
                                                    True ∧
                                                      ((5 : Nat) = (5 : Nat) ∧
                                                          (10 : Nat) = (10 : Nat) ∧
                                                            List.length [a, b, c, b, c, d, a, d, a, b] = (10 : Nat) ∧
                                                              (5 : Nat) ≤ (1000000 : Nat)) ∧
                                                        Decidable.decide
                                                              (Go.Proofs.Try.Sx.agree (10 : Nat)
                                                                (Go.Proofs.Try.Sx.pts5 a b c d) fun (i : Nat) =>
                                                                List.getD [a, b, c, b, c, d, a, d, a, b] i (0 : Int)) =
                                                            Bool.true ∧
                                                          True ∧
                                                            (List.length [a, b, c, b, c, d, a, d, a, b] = (10 : Nat) ∧
                                                                (5 : Nat) ≤ (1000000 : Nat)) ∧
                                                              (((4 : Nat) =
                                                                    Go.Proofs.Try.Sx.nsegs (5 : Nat) Bool.true
                                                                      fun (i : Nat) =>
                                                                      List.getD [a, b, c, b, c, d, a, d, a, b] i
                                                                        (0 : Int)) ∧
                                                                  (16 : Nat) = (16 : Nat) ∧
                                                                    ((4 : Nat) *
                                                                          Go.Proofs.Try.Sx.nsegs (5 : Nat) Bool.true
                                                                            fun (i : Nat) =>
                                                                            List.getD [a, b, c, b, c, d, a, d, a, b] i
                                                                              (0 : Int)) =
                                                                        (16 : Nat) ∧
                                                                      (4 : Nat) ≤ (1000000 : Nat)) ∧
                                                                Decidable.decide
                                                                      (Go.Proofs.Try.Sx.agree (16 : Nat)
                                                                        (Go.Proofs.Try.Sx.sgs4 a b c d)
                                                                        (Go.Proofs.Try.Sx.segI
                                                                          (fun (i : Nat) =>
                                                                            List.getD [a, b, c, b, c, d, a, d, a, b] i
                                                                              (0 : Int))
                                                                          (5 : Nat))) =
                                                                    Bool.false ∧
                                                                  Bool.true = Bool.true ∧ R Go.Sx.SV.ff)) ∧
                                              (Decidable.decide
                                                    (Go.Proofs.Try.Sx.agree (10 : Nat) (Go.Proofs.Try.Sx.pts5 a b c d)
                                                      fun (i : Nat) =>
                                                      List.getD [a, b, c, b, c, d, a, d, a, b] i (0 : Int)) =
                                                  Bool.false →
                                                True ∧
                                                  ((5 : Nat) = (5 : Nat) ∧
                                                      (10 : Nat) = (10 : Nat) ∧
                                                        List.length [a, b, c, b, c, d, a, d, a, b] = (10 : Nat) ∧
                                                          (5 : Nat) ≤ (1000000 : Nat)) ∧
                                                    Decidable.decide
                                                          (Go.Proofs.Try.Sx.agree (10 : Nat)
                                                            (Go.Proofs.Try.Sx.pts5 a b c d) fun (i : Nat) =>
                                                            List.getD [a, b, c, b, c, d, a, d, a, b] i (0 : Int)) =
                                                        Bool.false ∧
                                                      Bool.true = Bool.true ∧ R Go.Sx.SV.ff)) := by kernel_rfl
theorem lawRect : PureOk Try.prog 4 lawRectF := by
  refine pure_of_vc gRL Try.func4 rfl (by kernel_rfl) ?_
  intro args v p h hp
  unfold lawRectF at h
  split at h
  · rename_i a b c d p q r s x y
    injection h with h; injection h with h1 h2; subst h1; subst h2
    clear hp
    refine ⟨rfl, _, _, (vc_lawRect _ a b c d p q r s x y).mpr ?_⟩
    have hb : ∀ (u v : Bool), (!(u == v)) = true → u = v → False := by intro u v h e; subst e; simp at h
    refine ⟨⟨rfl, 0, trivial, by simp⟩, fun _ _ => ⟨⟨by simp, by simp, by simp, by simp, ⟨rfl, by omega⟩, fun _ => trivial, fun hall => ⟨fun _ => trivial, fun h1 => ⟨fun _ => trivial, fun h2 => ⟨0, ?_, by simp⟩⟩⟩⟩, fun _ hg => ?_⟩⟩
    · have hall : geoAll 10 (fun i => [a, b, c, d, p, q, r, s, x, y].getD i 0) = true := by simpa using hall
      have hall := of_decide_eq_true hall
      simp at h1 h2
      exact ⟨⟨hall 0 (by decide), hall 1 (by decide), hall 2 (by decide), hall 3 (by decide)⟩, ⟨hall 4 (by decide), hall 5 (by decide), hall 6 (by decide), hall 7 (by decide)⟩, hall 8 (by decide), hall 9 (by decide), h1, h2⟩
    · have hg' := hg
      obtain ⟨h4, h4', hx, hy, ⟨hac, hbd⟩, hpr, hqs⟩ := hg'
      obtain ⟨ha, hb', hc, hd⟩ := h4
      obtain ⟨hp, hq, hr, hs⟩ := h4'
      have e1 : decide (btw a c x ∧ btw b d y) = hasI a b c d x y := decide_eq_decide.2 (by unfold btw; omega)
      have e2 : decide ((btw a c p ∧ btw b d q) ∧ btw a c r ∧ btw b d s) = inI a b c d p q r s := decide_eq_decide.2 (by unfold btw; omega)
      have e3 : decide (a ≤ r ∧ p ≤ c ∧ b ≤ s ∧ q ≤ d) = meetI a b c d p q r s := decide_eq_decide.2 (by omega)
      have e4 : geoValid 2 (fun i => [a, b, c, d].getD i 0) = (vld a b && vld c d) := by
        unfold geoValid vld
        rw [← Bool.decide_and]
        refine decide_eq_decide.2 ⟨fun h => ⟨h 0 (by decide), h 1 (by decide)⟩, fun h i hi => ?_⟩
        have : i = 0 ∨ i = 1 := by omega
        rcases this with rfl | rfl
        · exact h.1
        · exact h.2
      have hwa : IntKind.i64.wrap (IntKind.i64.wrap (c - a) * IntKind.i64.wrap (d - b)) = (c - a) * (d - b) := by
        unfold small at ha hb' hc hd
        have := mul_bound (show (c - a).natAbs ≤ 2097152 by omega) (show (d - b).natAbs ≤ 2097152 by omega)
        rw [wrap64 (n := c - a) (by omega) (by omega), wrap64 (n := d - b) (by omega) (by omega), wrap64 (by omega) (by omega)]
      have hw1 : IntKind.i64.wrap (a + c) = a + c := by unfold small at ha hc; exact wrap64 (by omega) (by omega)
      have hw2 : IntKind.i64.wrap (b + d) = b + d := by unfold small at hb' hd; exact wrap64 (by omega) (by omega)
      have hne : fNe .f64 (area a b c d) (ofI .f64 ((c - a) * (d - b))) = false := by
        refine fne_I (area_of ha hb' hc hd).2 (fi' ?_)
        unfold small at ha hb' hc hd
        have := mul_bound (show (c - a).natAbs ≤ 2097152 by omega) (show (d - b).natAbs ≤ 2097152 by omega)
        omega
      have a1 : decide (agree 10 (pts5 a b c d) fun i => [a, b, c, b, c, d, a, d, a, b].getD i 0) = true := decide_eq_true fun j _ => rfl
      have a2 : decide (agree 16 (sgs4 a b c d) (segI (fun i => [a, b, c, b, c, d, a, d, a, b].getD i 0) 5)) = true := by
        refine decide_eq_true fun j hj => ?_
        have : j = 0 ∨ j = 1 ∨ j = 2 ∨ j = 3 ∨ j = 4 ∨ j = 5 ∨ j = 6 ∨ j = 7 ∨ j = 8 ∨ j = 9 ∨ j = 10 ∨ j = 11 ∨ j = 12 ∨ j = 13 ∨ j = 14 ∨ j = 15 := by omega
        rcases this with rfl | rfl | rfl | rfl | rfl | rfl | rfl | rfl | rfl | rfl | rfl | rfl | rfl | rfl | rfl | rfl <;> rfl
      have a3 : nsegs 5 true (fun i => [a, b, c, b, c, d, a, d, a, b].getD i 0) = 4 := by simp [nsegs]
      rw [e1, e2, e3, e4, hwa, hw1, hw2, hne, a1, a2, a3]
      have hh : ∀ u : Bool, (!(u == u)) = false := by intro u; simp
      simp [hh, hg, eqv]
      exact ⟨⟨ha, hb', hc, hd⟩, ⟨hp, hq, hr, hs⟩, hx, hy⟩
  · cases h
end Go.Proofs.Try.Sx
