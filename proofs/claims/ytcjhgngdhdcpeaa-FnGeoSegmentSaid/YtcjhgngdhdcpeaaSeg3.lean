/- impl.SegmentAsk; FnGeoSegment's law. -/
import Derived.Test.YtcjhgngdhdcpeaaSeg2
import Derived.Test.YtcjhgngdhdcpeaaIso
namespace Go.Proofs.Try.Sx
open Go Go.Sx Go.Proofs Go.Fl Go.Geo
set_option maxRecDepth 100000

noncomputable def GSA : Ctx := ⟨⟨tys, []⟩, [(28, pureCon ptF), (48, pureCon sHasPF), (49, pureCon sCollF), (50, pureCon sHasSF), (51, pureCon isecF), (52, pureCon cornersPF), (53, pureCon sRectF)]⟩
theorem gSA : CtxOk Try.prog GSA := ⟨⟨tysOk, FlatsOk.nil⟩, GamOk.cons (.pure pt) (GamOk.cons (.pure sHasP) (GamOk.cons (.pure sColl) (GamOk.cons (.pure sHasS) (GamOk.cons (.pure isec) (GamOk.cons (.pure cornersP) (GamOk.cons (.pure sRect) GamOk.nil)))))), by kernel_rfl⟩

def lo (x y : Int) : Int := if y < x then y else x
def hi (x y : Int) : Int := if y < x then x else y
def sAns (a1 a2 b1 b2 c1 c2 d1 d2 : Int) : List SV := [.bool (decide (On a1 a2 b1 b2 c1 c2)), .bool (decide (cross a1 a2 b1 b2 c1 c2 = 0)), .bool (decide (On a1 a2 b1 b2 c1 c2) && decide (On a1 a2 b1 b2 d1 d2)), .bool (decide (Isec a1 a2 b1 b2 c1 c2 d1 d2)), .int .i64 (lo a1 b1), .int .i64 (lo a2 b2), .int .i64 (hi a1 b1), .int .i64 (hi a2 b2)]

theorem fmin_of {x y : Int} (hx : small x) (hy : small y) : fmin (ofI .f64 x) (ofI .f64 y) = ofI .f64 (lo x y) := by
  unfold fmin lo
  rw [gt_of hx hy]
  by_cases h : y < x <;> simp [h]
theorem fmax_of {x y : Int} (hx : small x) (hy : small y) : fmax (ofI .f64 x) (ofI .f64 y) = ofI .f64 (hi x y) := by
  unfold fmax hi
  rw [gt_of hx hy]
  by_cases h : y < x <;> simp [h]
theorem small_lo {x y : Int} (hx : small x) (hy : small y) : small (lo x y) := by unfold lo; split <;> assumption
theorem small_hi {x y : Int} (hx : small x) (hy : small y) : small (hi x y) := by unfold hi; split <;> assumption

theorem p8_of {a1 a2 b1 b2 c1 c2 d1 d2 : Int} (sa1 : small a1) (sa2 : small a2) (sb1 : small b1) (sb2 : small b2) (sc1 : small c1) (sc2 : small c2) (sd1 : small d1) (sd2 : small d2) :
    P8 (ofI .f64 a1) (ofI .f64 a2) (ofI .f64 b1) (ofI .f64 b2) (ofI .f64 c1) (ofI .f64 c2) (ofI .f64 d1) (ofI .f64 d2) a1 a2 b1 b2 c1 c2 d1 d2 :=
  ⟨fi sa1, fi sa2, fi sb1, fi sb2, fi sc1, fi sc2, fi sd1, fi sd2, ⟨⟨sa1, sa2, sb1, sb2⟩, sc1, sc2, sd1, sd2⟩⟩

def segAskF : PF := fun
  | [.agg [.int .i64 a1, .int .i64 a2], .agg [.int .i64 b1, .int .i64 b2], .agg [.int .i64 c1, .int .i64 c2], .agg [.int .i64 d1, .int .i64 d2]] => some (.agg (sAns a1 a2 b1 b2 c1 c2 d1 d2), some (sm8 a1 a2 b1 b2 c1 c2 d1 d2))
  | _ => none
theorem vc_segAsk (R : SV → Prop) (a1 a2 b1 b2 c1 c2 d1 d2 : Int) : runA GSA 0 [] [] (codeOf Try.f23) (init Try.f23.ntmps [.agg [.int .i64 a1, .int .i64 a2], .agg [.int .i64 b1, .int .i64 b2], .agg [.int .i64 c1, .int .i64 c2], .agg [.int .i64 d1, .int .i64 d2]] [] 0) (endK GSA.E.T Try.f23.results.toList fun _ v => R v) = (
  Bool.true = Bool.true ∧
    Go.Proofs.Try.Sx.PW (Go.Sx.ofI Go.FloatKind.f64 a1) (Go.Sx.ofI Go.FloatKind.f64 a2) (Go.Sx.ofI Go.FloatKind.f64 b1)
        (Go.Sx.ofI Go.FloatKind.f64 b2) (Go.Sx.ofI Go.FloatKind.f64 c1) (Go.Sx.ofI Go.FloatKind.f64 c2) ∧
      Go.Proofs.Try.Sx.P8 (Go.Sx.ofI Go.FloatKind.f64 a1) (Go.Sx.ofI Go.FloatKind.f64 a2) (Go.Sx.ofI Go.FloatKind.f64 b1)
          (Go.Sx.ofI Go.FloatKind.f64 b2) (Go.Sx.ofI Go.FloatKind.f64 c1) (Go.Sx.ofI Go.FloatKind.f64 c2)
          (Go.Sx.ofI Go.FloatKind.f64 c1) (Go.Sx.ofI Go.FloatKind.f64 c2)
          (Go.Proofs.Try.Sx.wh (Go.Sx.ofI Go.FloatKind.f64 a1)) (Go.Proofs.Try.Sx.wh (Go.Sx.ofI Go.FloatKind.f64 a2))
          (Go.Proofs.Try.Sx.wh (Go.Sx.ofI Go.FloatKind.f64 b1)) (Go.Proofs.Try.Sx.wh (Go.Sx.ofI Go.FloatKind.f64 b2))
          (Go.Proofs.Try.Sx.wh (Go.Sx.ofI Go.FloatKind.f64 c1)) (Go.Proofs.Try.Sx.wh (Go.Sx.ofI Go.FloatKind.f64 c2))
          (Go.Proofs.Try.Sx.wh (Go.Sx.ofI Go.FloatKind.f64 c1)) (Go.Proofs.Try.Sx.wh (Go.Sx.ofI Go.FloatKind.f64 c2)) ∧
        (Go.Proofs.Try.Sx.PW (Go.Sx.ofI Go.FloatKind.f64 a1) (Go.Sx.ofI Go.FloatKind.f64 a2)
              (Go.Sx.ofI Go.FloatKind.f64 b1) (Go.Sx.ofI Go.FloatKind.f64 b2) (Go.Sx.ofI Go.FloatKind.f64 c1)
              (Go.Sx.ofI Go.FloatKind.f64 c2) ∧
            Go.Proofs.Try.Sx.PW (Go.Sx.ofI Go.FloatKind.f64 a1) (Go.Sx.ofI Go.FloatKind.f64 a2)
              (Go.Sx.ofI Go.FloatKind.f64 b1) (Go.Sx.ofI Go.FloatKind.f64 b2) (Go.Sx.ofI Go.FloatKind.f64 d1)
              (Go.Sx.ofI Go.FloatKind.f64 d2)) ∧
          Go.Proofs.Try.Sx.P8 (Go.Sx.ofI Go.FloatKind.f64 a1) (Go.Sx.ofI Go.FloatKind.f64 a2)
              (Go.Sx.ofI Go.FloatKind.f64 b1) (Go.Sx.ofI Go.FloatKind.f64 b2) (Go.Sx.ofI Go.FloatKind.f64 c1)
              (Go.Sx.ofI Go.FloatKind.f64 c2) (Go.Sx.ofI Go.FloatKind.f64 d1) (Go.Sx.ofI Go.FloatKind.f64 d2)
              (Go.Proofs.Try.Sx.wh (Go.Sx.ofI Go.FloatKind.f64 a1)) (Go.Proofs.Try.Sx.wh (Go.Sx.ofI Go.FloatKind.f64 a2))
              (Go.Proofs.Try.Sx.wh (Go.Sx.ofI Go.FloatKind.f64 b1)) (Go.Proofs.Try.Sx.wh (Go.Sx.ofI Go.FloatKind.f64 b2))
              (Go.Proofs.Try.Sx.wh (Go.Sx.ofI Go.FloatKind.f64 c1)) (Go.Proofs.Try.Sx.wh (Go.Sx.ofI Go.FloatKind.f64 c2))
              (Go.Proofs.Try.Sx.wh (Go.Sx.ofI Go.FloatKind.f64 d1))
              (Go.Proofs.Try.Sx.wh (Go.Sx.ofI Go.FloatKind.f64 d2)) ∧
            ((Go.Sx.toIok Go.FloatKind.f64
                    (Go.Proofs.Try.Sx.fmin (Go.Sx.ofI Go.FloatKind.f64 a1) (Go.Sx.ofI Go.FloatKind.f64 b1))
                    Go.IntKind.i64 ∧
                  Go.Sx.toIok Go.FloatKind.f64
                    (Go.Proofs.Try.Sx.fmin (Go.Sx.ofI Go.FloatKind.f64 a2) (Go.Sx.ofI Go.FloatKind.f64 b2))
                    Go.IntKind.i64) ∧
                Go.Sx.toIok Go.FloatKind.f64
                    (Go.Proofs.Try.Sx.fmax (Go.Sx.ofI Go.FloatKind.f64 a1) (Go.Sx.ofI Go.FloatKind.f64 b1))
                    Go.IntKind.i64 ∧
                  Go.Sx.toIok Go.FloatKind.f64
                    (Go.Proofs.Try.Sx.fmax (Go.Sx.ofI Go.FloatKind.f64 a2) (Go.Sx.ofI Go.FloatKind.f64 b2))
                    Go.IntKind.i64) ∧
              Bool.true = Bool.true ∧
                R
                  (Go.Sx.SV.agg
                    [Go.Sx.SV.bool
                        (Go.Proofs.Try.Sx.onW (Go.Sx.ofI Go.FloatKind.f64 a1) (Go.Sx.ofI Go.FloatKind.f64 a2)
                          (Go.Sx.ofI Go.FloatKind.f64 b1) (Go.Sx.ofI Go.FloatKind.f64 b2) (Go.Sx.ofI Go.FloatKind.f64 c1)
                          (Go.Sx.ofI Go.FloatKind.f64 c2)),
                      Go.Sx.SV.bool
                        (Decidable.decide
                          (Go.Proofs.Try.Sx.xp
                              (Go.Proofs.Try.Sx.wh (Go.Sx.ofI Go.FloatKind.f64 c1) -
                                Go.Proofs.Try.Sx.wh (Go.Sx.ofI Go.FloatKind.f64 a1))
                              (Go.Proofs.Try.Sx.wh (Go.Sx.ofI Go.FloatKind.f64 c2) -
                                Go.Proofs.Try.Sx.wh (Go.Sx.ofI Go.FloatKind.f64 a2))
                              (Go.Proofs.Try.Sx.wh (Go.Sx.ofI Go.FloatKind.f64 b1) -
                                Go.Proofs.Try.Sx.wh (Go.Sx.ofI Go.FloatKind.f64 a1))
                              (Go.Proofs.Try.Sx.wh (Go.Sx.ofI Go.FloatKind.f64 b2) -
                                Go.Proofs.Try.Sx.wh (Go.Sx.ofI Go.FloatKind.f64 a2)) =
                            (0 : Int))),
                      Go.Sx.SV.bool
                        (Go.Proofs.Try.Sx.onW (Go.Sx.ofI Go.FloatKind.f64 a1) (Go.Sx.ofI Go.FloatKind.f64 a2)
                            (Go.Sx.ofI Go.FloatKind.f64 b1) (Go.Sx.ofI Go.FloatKind.f64 b2)
                            (Go.Sx.ofI Go.FloatKind.f64 c1) (Go.Sx.ofI Go.FloatKind.f64 c2) &&
                          Go.Proofs.Try.Sx.onW (Go.Sx.ofI Go.FloatKind.f64 a1) (Go.Sx.ofI Go.FloatKind.f64 a2)
                            (Go.Sx.ofI Go.FloatKind.f64 b1) (Go.Sx.ofI Go.FloatKind.f64 b2)
                            (Go.Sx.ofI Go.FloatKind.f64 d1) (Go.Sx.ofI Go.FloatKind.f64 d2)),
                      Go.Sx.SV.bool
                        (Decidable.decide
                          (Go.Proofs.Try.Sx.Isec (Go.Proofs.Try.Sx.wh (Go.Sx.ofI Go.FloatKind.f64 a1))
                            (Go.Proofs.Try.Sx.wh (Go.Sx.ofI Go.FloatKind.f64 a2))
                            (Go.Proofs.Try.Sx.wh (Go.Sx.ofI Go.FloatKind.f64 b1))
                            (Go.Proofs.Try.Sx.wh (Go.Sx.ofI Go.FloatKind.f64 b2))
                            (Go.Proofs.Try.Sx.wh (Go.Sx.ofI Go.FloatKind.f64 c1))
                            (Go.Proofs.Try.Sx.wh (Go.Sx.ofI Go.FloatKind.f64 c2))
                            (Go.Proofs.Try.Sx.wh (Go.Sx.ofI Go.FloatKind.f64 d1))
                            (Go.Proofs.Try.Sx.wh (Go.Sx.ofI Go.FloatKind.f64 d2)))),
                      Go.Sx.SV.int Go.IntKind.i64
                        (Go.Sx.toI Go.FloatKind.f64
                          (Go.Proofs.Try.Sx.fmin (Go.Sx.ofI Go.FloatKind.f64 a1) (Go.Sx.ofI Go.FloatKind.f64 b1))
                          Go.IntKind.i64),
                      Go.Sx.SV.int Go.IntKind.i64
                        (Go.Sx.toI Go.FloatKind.f64
                          (Go.Proofs.Try.Sx.fmin (Go.Sx.ofI Go.FloatKind.f64 a2) (Go.Sx.ofI Go.FloatKind.f64 b2))
                          Go.IntKind.i64),
                      Go.Sx.SV.int Go.IntKind.i64
                        (Go.Sx.toI Go.FloatKind.f64
                          (Go.Proofs.Try.Sx.fmax (Go.Sx.ofI Go.FloatKind.f64 a1) (Go.Sx.ofI Go.FloatKind.f64 b1))
                          Go.IntKind.i64),
                      Go.Sx.SV.int Go.IntKind.i64
                        (Go.Sx.toI Go.FloatKind.f64
                          (Go.Proofs.Try.Sx.fmax (Go.Sx.ofI Go.FloatKind.f64 a2) (Go.Sx.ofI Go.FloatKind.f64 b2))
                          Go.IntKind.i64)])) := by kernel_rfl
theorem segAsk : PureOk Try.prog 23 segAskF := by
  refine pure_of_vc gSA Try.func23 rfl (by kernel_rfl) ?_
  intro args v p h hp
  unfold segAskF at h
  split at h
  · rename_i a1 a2 b1 b2 c1 c2 d1 d2
    injection h with h; injection h with h1 h2; subst h1; subst h2
    have hp : sm8 a1 a2 b1 b2 c1 c2 d1 d2 := hp
    refine ⟨rfl, _, _, (vc_segAsk _ a1 a2 b1 b2 c1 c2 d1 d2).mpr ?_⟩
    obtain ⟨⟨sa1, sa2, sb1, sb2⟩, sc1, sc2, sd1, sd2⟩ := hp
    have x1 : PW (ofI .f64 a1) (ofI .f64 a2) (ofI .f64 b1) (ofI .f64 b2) (ofI .f64 c1) (ofI .f64 c2) := by
      unfold PW
      rw [wh_of sa1, wh_of sa2, wh_of sb1, wh_of sb2, wh_of sc1, wh_of sc2]
      exact pts_of ⟨⟨sa1, sa2⟩, ⟨sb1, sb2⟩, sc1, sc2⟩
    have x2 : PW (ofI .f64 a1) (ofI .f64 a2) (ofI .f64 b1) (ofI .f64 b2) (ofI .f64 d1) (ofI .f64 d2) := by
      unfold PW
      rw [wh_of sa1, wh_of sa2, wh_of sb1, wh_of sb2, wh_of sd1, wh_of sd2]
      exact pts_of ⟨⟨sa1, sa2⟩, ⟨sb1, sb2⟩, sd1, sd2⟩
    have y1 := p8_of sa1 sa2 sb1 sb2 sc1 sc2 sc1 sc2
    have y2 := p8_of sa1 sa2 sb1 sb2 sc1 sc2 sd1 sd2
    have o1 : onW (ofI .f64 a1) (ofI .f64 a2) (ofI .f64 b1) (ofI .f64 b2) (ofI .f64 c1) (ofI .f64 c2) = decide (On a1 a2 b1 b2 c1 c2) := by
      unfold onW
      rw [wh_of sa1, wh_of sa2, wh_of sb1, wh_of sb2, wh_of sc1, wh_of sc2]
    have o2 : onW (ofI .f64 a1) (ofI .f64 a2) (ofI .f64 b1) (ofI .f64 b2) (ofI .f64 d1) (ofI .f64 d2) = decide (On a1 a2 b1 b2 d1 d2) := by
      unfold onW
      rw [wh_of sa1, wh_of sa2, wh_of sb1, wh_of sb2, wh_of sd1, wh_of sd2]
    have cx : decide (xp (c1 - a1) (c2 - a2) (b1 - a1) (b2 - a2) = 0) = decide (cross a1 a2 b1 b2 c1 c2 = 0) := by
      refine decide_eq_decide.2 ?_
      unfold xp cross
      rw [Int.mul_comm (b1 - a1), Int.mul_comm (b2 - a2)]
      omega
    rw [fmin_of sa1 sb1, fmin_of sa2 sb2, fmax_of sa1 sb1, fmax_of sa2 sb2, (toI_of (small_lo sa1 sb1)).2, (toI_of (small_lo sa2 sb2)).2, (toI_of (small_hi sa1 sb1)).2, (toI_of (small_hi sa2 sb2)).2]
    rw [wh_of sa1, wh_of sa2, wh_of sb1, wh_of sb2, wh_of sc1, wh_of sc2, wh_of sd1, wh_of sd2, o1, o2, cx]
    exact ⟨rfl, x1, y1, ⟨x1, x2⟩, y2, ⟨⟨(toI_of (small_lo sa1 sb1)).1, (toI_of (small_lo sa2 sb2)).1⟩, (toI_of (small_hi sa1 sb1)).1, (toI_of (small_hi sa2 sb2)).1⟩, rfl, rfl, rfl, rfl, rfl, rfl, rfl, rfl, rfl, trivial⟩
  · cases h

noncomputable def GSL : Ctx := ⟨⟨tys, FL⟩, [(6, conR geoOfC), (7, conR isGeoC), (8, pureCon awakeF), (10, pureCon onF), (12, pureCon geoRectF), (23, pureCon segAskF), (24, pureCon gCollF), (25, conR gRectC), (26, pureCon gPlainF), (27, pureCon gCovF)]⟩
theorem gSL : CtxOk Try.prog GSL := ⟨⟨tysOk, flOk⟩, GamOk.cons geoOf (GamOk.cons isGeo (GamOk.cons (.pure awake) (GamOk.cons (.pure on) (GamOk.cons (.pure geoRect) (GamOk.cons (.pure segAsk) (GamOk.cons (.pure gColl) (GamOk.cons gRect (GamOk.cons (.pure gPlain) (GamOk.cons (.pure gCov) GamOk.nil))))))))), by kernel_rfl⟩

def q8 (a1 a2 b1 b2 c1 c2 d1 d2 : Int) (i : Nat) : Int := [a1, a2, b1, b2, c1, c2, d1, d2].getD i 0
def slH (a1 a2 b1 b2 c1 c2 d1 d2 : Int) : Heap := [(0, ⟨true, 23, .cells [.int .i64 a1, .int .i64 a2], 0⟩), (1, ⟨true, 23, .cells [.int .i64 b1, .int .i64 b2], 0⟩), (2, ⟨true, 23, .cells [.int .i64 c1, .int .i64 c2], 0⟩), (3, ⟨true, 23, .cells [.int .i64 d1, .int .i64 d2], 0⟩), (4, ⟨true, 31, .ints .i64 8 (q8 a1 a2 b1 b2 c1 c2 d1 d2), 2⟩)]
def sl2 (a1 a2 b1 b2 c1 c2 d1 d2 : Int) (P : Prop) : Fam := ⟨Nat, fun _ => ⟨123, [(4, .ptr 0 0), (5, .ptr 1 0), (6, .ptr 2 0), (7, .ptr 3 0), (9, .slcc 4 4)], slH a1 a2 b1 b2 c1 c2 d1 d2, 5⟩, fun _ => P, fun _ => 0⟩
def slK (a1 a2 b1 b2 c1 c2 d1 d2 : Int) : Heap := [(0, ⟨true, 52, .cells (sAns a1 a2 b1 b2 c1 c2 d1 d2), 0⟩), (1, ⟨true, 31, .ints .i64 8 (q8 a1 a2 b1 b2 c1 c2 d1 d2), 2⟩)]
def sl5 (a1 a2 b1 b2 c1 c2 d1 d2 : Int) (x : Slots) : Fam := ⟨Nat, fun _ => ⟨123, (9, .slcc 1 4) :: (10, .ptr 0 0) :: x, slK a1 a2 b1 b2 c1 c2 d1 d2, 2⟩, fun _ => sm8 a1 a2 b1 b2 c1 c2 d1 d2, fun _ => 0⟩

theorem mn2 (g : Nat → Int) (k : Nat) : mn g k 2 = lo (g k) (g (2 + k)) := by
  show imin (imin (g k) (g (2 * 0 + k))) (g (2 * 1 + k)) = _
  rw [show 2 * 0 + k = k by omega, show 2 * 1 + k = 2 + k by omega]
  simp [imin, lo]
theorem mx2 (g : Nat → Int) (k : Nat) : mx g k 2 = hi (g k) (g (2 + k)) := by
  show imax (imax (g k) (g (2 * 0 + k))) (g (2 * 1 + k)) = _
  rw [show 2 * 0 + k = k by omega, show 2 * 1 + k = 2 + k by omega]
  simp [imax, hi]
  split <;> split <;> omega

def lawSegF : PF := fun
  | [.agg [.int .i64 a1, .int .i64 a2], .agg [.int .i64 b1, .int .i64 b2], .agg [.int .i64 c1, .int .i64 c2], .agg [.int .i64 d1, .int .i64 d2]] => some (.tt, none)
  | _ => none
theorem vc_lawSeg (R : SV → Prop) (a1 a2 b1 b2 c1 c2 d1 d2 : Int) : runA GSL 0 [] [(2, sl2 a1 a2 b1 b2 c1 c2 d1 d2 True), (4, sl2 a1 a2 b1 b2 c1 c2 d1 d2 (sm8 a1 a2 b1 b2 c1 c2 d1 d2)), (5, sl5 a1 a2 b1 b2 c1 c2 d1 d2 []), (6, sl5 a1 a2 b1 b2 c1 c2 d1 d2 [(11, .bool (decide (On a1 a2 b1 b2 c1 c2)))]), (8, sl5 a1 a2 b1 b2 c1 c2 d1 d2 []), (9, sl5 a1 a2 b1 b2 c1 c2 d1 d2 [(12, .bool (decide (GMeet a1 a2 b1 b2 c1 c2 d1 d2)))])] (codeOf Try.f5) (init Try.f5.ntmps [.agg [.int .i64 a1, .int .i64 a2], .agg [.int .i64 b1, .int .i64 b2], .agg [.int .i64 c1, .int .i64 c2], .agg [.int .i64 d1, .int .i64 d2]] [] 0) (endK GSL.E.T Try.f5.results.toList fun _ v => R v) = (
  ((List.length [a1, a2, b1, b2, c1, c2, d1, d2] = (8 : Nat) ∧ (4 : Nat) ≤ (1000000 : Nat)) ∧
      ∃ (j : Nat),
        True ∧
          ((True ∧ (0 : Nat) = (0 : Nat)) ∧
              (True ∧ (0 : Nat) = (0 : Nat)) ∧
                (True ∧ (0 : Nat) = (0 : Nat)) ∧ (True ∧ (0 : Nat) = (0 : Nat)) ∧ (True ∧ (4 : Nat) = (4 : Nat)) ∧ True) ∧
            True ∧
              ((23 : Nat) = (23 : Nat) ∧ (0 : Nat) = (0 : Nat) ∧ a1 = a1 ∧ a2 = a2 ∧ True) ∧
                True ∧
                  ((23 : Nat) = (23 : Nat) ∧ (0 : Nat) = (0 : Nat) ∧ b1 = b1 ∧ b2 = b2 ∧ True) ∧
                    True ∧
                      ((23 : Nat) = (23 : Nat) ∧ (0 : Nat) = (0 : Nat) ∧ c1 = c1 ∧ c2 = c2 ∧ True) ∧
                        True ∧
                          ((23 : Nat) = (23 : Nat) ∧ (0 : Nat) = (0 : Nat) ∧ d1 = d1 ∧ d2 = d2 ∧ True) ∧
                            True ∧
                              ((31 : Nat) = (31 : Nat) ∧
                                  (2 : Nat) = (2 : Nat) ∧
                                    (8 : Nat) ≤ (8 : Nat) ∧
                                      ∀ (i : Nat),
                                        i < (8 : Nat) →
                                          List.getD [a1, a2, b1, b2, c1, c2, d1, d2] i (0 : Int) =
                                            Go.Proofs.Try.Sx.q8 a1 a2 b1 b2 c1 c2 d1 d2 i) ∧
                                True) ∧
    ∀ (j : Nat),
      True →
        (((8 : Nat) = (8 : Nat) ∧ (4 : Nat) ≤ (1000000 : Nat)) ∧
            ((!Go.Proofs.Try.Sx.geoAll (8 : Nat) (Go.Proofs.Try.Sx.q8 a1 a2 b1 b2 c1 c2 d1 d2)) = Bool.true →
                R Go.Sx.SV.tt) ∧
              ((!Go.Proofs.Try.Sx.geoAll (8 : Nat) (Go.Proofs.Try.Sx.q8 a1 a2 b1 b2 c1 c2 d1 d2)) = Bool.false →
                ∃ (j : Nat),
                  Go.Proofs.Try.Sx.sm8 a1 a2 b1 b2 c1 c2 d1 d2 ∧
                    ((True ∧ (0 : Nat) = (0 : Nat)) ∧
                        (True ∧ (0 : Nat) = (0 : Nat)) ∧
                          (True ∧ (0 : Nat) = (0 : Nat)) ∧
                            (True ∧ (0 : Nat) = (0 : Nat)) ∧ (True ∧ (4 : Nat) = (4 : Nat)) ∧ True) ∧
                      True ∧
                        ((23 : Nat) = (23 : Nat) ∧ (0 : Nat) = (0 : Nat) ∧ a1 = a1 ∧ a2 = a2 ∧ True) ∧
                          True ∧
                            ((23 : Nat) = (23 : Nat) ∧ (0 : Nat) = (0 : Nat) ∧ b1 = b1 ∧ b2 = b2 ∧ True) ∧
                              True ∧
                                ((23 : Nat) = (23 : Nat) ∧ (0 : Nat) = (0 : Nat) ∧ c1 = c1 ∧ c2 = c2 ∧ True) ∧
                                  True ∧
                                    ((23 : Nat) = (23 : Nat) ∧ (0 : Nat) = (0 : Nat) ∧ d1 = d1 ∧ d2 = d2 ∧ True) ∧
                                      True ∧
                                        ((31 : Nat) = (31 : Nat) ∧
                                            (2 : Nat) = (2 : Nat) ∧
                                              (8 : Nat) ≤ (8 : Nat) ∧
                                                ∀ (i : Nat),
                                                  i < (8 : Nat) →
                                                    Go.Proofs.Try.Sx.q8 a1 a2 b1 b2 c1 c2 d1 d2 i =
                                                      Go.Proofs.Try.Sx.q8 a1 a2 b1 b2 c1 c2 d1 d2 i) ∧
                                          True)) ∧
          ∀ (j : Nat),
            Go.Proofs.Try.Sx.sm8 a1 a2 b1 b2 c1 c2 d1 d2 →
              (Go.Proofs.Try.Sx.sm8 a1 a2 b1 b2 c1 c2 d1 d2 ∧
                  ∃ (j : Nat),
                    Go.Proofs.Try.Sx.sm8 a1 a2 b1 b2 c1 c2 d1 d2 ∧
                      ((True ∧ (4 : Nat) = (4 : Nat)) ∧ (True ∧ (0 : Nat) = (0 : Nat)) ∧ True) ∧
                        True ∧
                          ((52 : Nat) = (52 : Nat) ∧
                              (0 : Nat) = (0 : Nat) ∧
                                Decidable.decide (Go.Geo.On a1 a2 b1 b2 c1 c2) =
                                    Decidable.decide (Go.Geo.On a1 a2 b1 b2 c1 c2) ∧
                                  Decidable.decide (Go.Geo.cross a1 a2 b1 b2 c1 c2 = (0 : Int)) =
                                      Decidable.decide (Go.Geo.cross a1 a2 b1 b2 c1 c2 = (0 : Int)) ∧
                                    (Decidable.decide (Go.Geo.On a1 a2 b1 b2 c1 c2) &&
                                          Decidable.decide (Go.Geo.On a1 a2 b1 b2 d1 d2)) =
                                        (Decidable.decide (Go.Geo.On a1 a2 b1 b2 c1 c2) &&
                                          Decidable.decide (Go.Geo.On a1 a2 b1 b2 d1 d2)) ∧
                                      Decidable.decide (Go.Proofs.Try.Sx.Isec a1 a2 b1 b2 c1 c2 d1 d2) =
                                          Decidable.decide (Go.Proofs.Try.Sx.Isec a1 a2 b1 b2 c1 c2 d1 d2) ∧
                                        Go.Proofs.Try.Sx.lo a1 b1 = Go.Proofs.Try.Sx.lo a1 b1 ∧
                                          Go.Proofs.Try.Sx.lo a2 b2 = Go.Proofs.Try.Sx.lo a2 b2 ∧
                                            Go.Proofs.Try.Sx.hi a1 b1 = Go.Proofs.Try.Sx.hi a1 b1 ∧
                                              Go.Proofs.Try.Sx.hi a2 b2 = Go.Proofs.Try.Sx.hi a2 b2 ∧ True) ∧
                            True ∧
                              ((31 : Nat) = (31 : Nat) ∧
                                  (2 : Nat) = (2 : Nat) ∧
                                    (8 : Nat) ≤ (8 : Nat) ∧
                                      ∀ (i : Nat),
                                        i < (8 : Nat) →
                                          Go.Proofs.Try.Sx.q8 a1 a2 b1 b2 c1 c2 d1 d2 i =
                                            Go.Proofs.Try.Sx.q8 a1 a2 b1 b2 c1 c2 d1 d2 i) ∧
                                True) ∧
                ∀ (j : Nat),
                  Go.Proofs.Try.Sx.sm8 a1 a2 b1 b2 c1 c2 d1 d2 →
                    ((((0 : Int) ≤ (0 : Int) ∧ (0 : Int) < (4 : Int)) ∧ (1 : Nat) ≤ (8 : Nat)) ∧
                        (2 : Nat) ≤ (8 : Nat) ∧
                          (((0 : Int) ≤ (1 : Int) ∧ (1 : Int) < (4 : Int)) ∧ (1 : Nat) ≤ (8 : Nat)) ∧
                            (4 : Nat) ≤ (8 : Nat) ∧
                              (((0 : Int) ≤ (2 : Int) ∧ (2 : Int) < (4 : Int)) ∧ (1 : Nat) ≤ (8 : Nat)) ∧
                                (6 : Nat) ≤ (8 : Nat) ∧
                                  Go.Proofs.Try.Sx.small6 (Go.Proofs.Try.Sx.q8 a1 a2 b1 b2 c1 c2 d1 d2 (0 : Nat))
                                      (Go.Proofs.Try.Sx.q8 a1 a2 b1 b2 c1 c2 d1 d2 (1 : Nat))
                                      (Go.Proofs.Try.Sx.q8 a1 a2 b1 b2 c1 c2 d1 d2 (2 : Nat))
                                      (Go.Proofs.Try.Sx.q8 a1 a2 b1 b2 c1 c2 d1 d2 (3 : Nat))
                                      (Go.Proofs.Try.Sx.q8 a1 a2 b1 b2 c1 c2 d1 d2 (4 : Nat))
                                      (Go.Proofs.Try.Sx.q8 a1 a2 b1 b2 c1 c2 d1 d2 (5 : Nat)) ∧
                                    Bool.true = Bool.true ∧
                                      ∃ (j : Nat),
                                        Go.Proofs.Try.Sx.sm8 a1 a2 b1 b2 c1 c2 d1 d2 ∧
                                          ((True ∧ (4 : Nat) = (4 : Nat)) ∧
                                              (True ∧ (0 : Nat) = (0 : Nat)) ∧
                                                Decidable.decide
                                                      (Go.Geo.On (Go.Proofs.Try.Sx.q8 a1 a2 b1 b2 c1 c2 d1 d2 (0 : Nat))
                                                        (Go.Proofs.Try.Sx.q8 a1 a2 b1 b2 c1 c2 d1 d2 (1 : Nat))
                                                        (Go.Proofs.Try.Sx.q8 a1 a2 b1 b2 c1 c2 d1 d2 (2 : Nat))
                                                        (Go.Proofs.Try.Sx.q8 a1 a2 b1 b2 c1 c2 d1 d2 (3 : Nat))
                                                        (Go.Proofs.Try.Sx.q8 a1 a2 b1 b2 c1 c2 d1 d2 (4 : Nat))
                                                        (Go.Proofs.Try.Sx.q8 a1 a2 b1 b2 c1 c2 d1 d2 (5 : Nat))) =
                                                    Decidable.decide (Go.Geo.On a1 a2 b1 b2 c1 c2) ∧
                                                  True) ∧
                                            True ∧
                                              ((52 : Nat) = (52 : Nat) ∧
                                                  (0 : Nat) = (0 : Nat) ∧
                                                    Decidable.decide (Go.Geo.On a1 a2 b1 b2 c1 c2) =
                                                        Decidable.decide (Go.Geo.On a1 a2 b1 b2 c1 c2) ∧
                                                      Decidable.decide (Go.Geo.cross a1 a2 b1 b2 c1 c2 = (0 : Int)) =
                                                          Decidable.decide (Go.Geo.cross a1 a2 b1 b2 c1 c2 = (0 : Int)) ∧
                                                        (Decidable.decide (Go.Geo.On a1 a2 b1 b2 c1 c2) &&
                                                              Decidable.decide (Go.Geo.On a1 a2 b1 b2 d1 d2)) =
                                                            (Decidable.decide (Go.Geo.On a1 a2 b1 b2 c1 c2) &&
                                                              Decidable.decide (Go.Geo.On a1 a2 b1 b2 d1 d2)) ∧
                                                          Decidable.decide
                                                                (Go.Proofs.Try.Sx.Isec a1 a2 b1 b2 c1 c2 d1 d2) =
                                                              Decidable.decide
                                                                (Go.Proofs.Try.Sx.Isec a1 a2 b1 b2 c1 c2 d1 d2) ∧
                                                            Go.Proofs.Try.Sx.lo a1 b1 = Go.Proofs.Try.Sx.lo a1 b1 ∧
                                                              Go.Proofs.Try.Sx.lo a2 b2 = Go.Proofs.Try.Sx.lo a2 b2 ∧
                                                                Go.Proofs.Try.Sx.hi a1 b1 = Go.Proofs.Try.Sx.hi a1 b1 ∧
                                                                  Go.Proofs.Try.Sx.hi a2 b2 = Go.Proofs.Try.Sx.hi a2 b2 ∧
                                                                    True) ∧
                                                True ∧
                                                  ((31 : Nat) = (31 : Nat) ∧
                                                      (2 : Nat) = (2 : Nat) ∧
                                                        (8 : Nat) ≤ (8 : Nat) ∧
                                                          ∀ (i : Nat),
                                                            i < (8 : Nat) →
                                                              Go.Proofs.Try.Sx.q8 a1 a2 b1 b2 c1 c2 d1 d2 i =
                                                                Go.Proofs.Try.Sx.q8 a1 a2 b1 b2 c1 c2 d1 d2 i) ∧
                                                    True) ∧
                      ∀ (j : Nat),
                        Go.Proofs.Try.Sx.sm8 a1 a2 b1 b2 c1 c2 d1 d2 →
                          (((!Decidable.decide (Go.Geo.On a1 a2 b1 b2 c1 c2) ==
                                      Decidable.decide (Go.Geo.On a1 a2 b1 b2 c1 c2)) =
                                  Bool.true →
                                (!Decidable.decide (Go.Geo.On a1 a2 b1 b2 c1 c2) ==
                                        Decidable.decide (Go.Geo.On a1 a2 b1 b2 c1 c2)) =
                                    Bool.true ∧
                                  Bool.true = Bool.true ∧ R Go.Sx.SV.ff) ∧
                              ((!Decidable.decide (Go.Geo.On a1 a2 b1 b2 c1 c2) ==
                                      Decidable.decide (Go.Geo.On a1 a2 b1 b2 c1 c2)) =
                                  Bool.false →
                                ((!Decidable.decide (Go.Geo.cross a1 a2 b1 b2 c1 c2 = (0 : Int)) ==
                                          Decidable.decide
                                            (Go.Geo.cross (Go.Proofs.Try.Sx.q8 a1 a2 b1 b2 c1 c2 d1 d2 (0 : Nat))
                                                (Go.Proofs.Try.Sx.q8 a1 a2 b1 b2 c1 c2 d1 d2 (1 : Nat))
                                                (Go.Proofs.Try.Sx.q8 a1 a2 b1 b2 c1 c2 d1 d2 (2 : Nat))
                                                (Go.Proofs.Try.Sx.q8 a1 a2 b1 b2 c1 c2 d1 d2 (3 : Nat))
                                                (Go.Proofs.Try.Sx.q8 a1 a2 b1 b2 c1 c2 d1 d2 (4 : Nat))
                                                (Go.Proofs.Try.Sx.q8 a1 a2 b1 b2 c1 c2 d1 d2 (5 : Nat)) =
                                              (0 : Int))) =
                                      Bool.true →
                                    (!Decidable.decide (Go.Geo.On a1 a2 b1 b2 c1 c2) ==
                                            Decidable.decide (Go.Geo.On a1 a2 b1 b2 c1 c2)) =
                                        Bool.false ∧
                                      (((0 : Int) ≤ (0 : Int) ∧ (0 : Int) < (4 : Int)) ∧ (1 : Nat) ≤ (8 : Nat)) ∧
                                        (2 : Nat) ≤ (8 : Nat) ∧
                                          (((0 : Int) ≤ (1 : Int) ∧ (1 : Int) < (4 : Int)) ∧ (1 : Nat) ≤ (8 : Nat)) ∧
                                            (4 : Nat) ≤ (8 : Nat) ∧
                                              (((0 : Int) ≤ (2 : Int) ∧ (2 : Int) < (4 : Int)) ∧ (1 : Nat) ≤ (8 : Nat)) ∧
                                                (6 : Nat) ≤ (8 : Nat) ∧
                                                  Go.Proofs.Try.Sx.small6
                                                      (Go.Proofs.Try.Sx.q8 a1 a2 b1 b2 c1 c2 d1 d2 (0 : Nat))
                                                      (Go.Proofs.Try.Sx.q8 a1 a2 b1 b2 c1 c2 d1 d2 (1 : Nat))
                                                      (Go.Proofs.Try.Sx.q8 a1 a2 b1 b2 c1 c2 d1 d2 (2 : Nat))
                                                      (Go.Proofs.Try.Sx.q8 a1 a2 b1 b2 c1 c2 d1 d2 (3 : Nat))
                                                      (Go.Proofs.Try.Sx.q8 a1 a2 b1 b2 c1 c2 d1 d2 (4 : Nat))
                                                      (Go.Proofs.Try.Sx.q8 a1 a2 b1 b2 c1 c2 d1 d2 (5 : Nat)) ∧
                                                    (!Decidable.decide (Go.Geo.cross a1 a2 b1 b2 c1 c2 = (0 : Int)) ==
                                                            Decidable.decide
                                                              (Go.Geo.cross
                                                                  (Go.Proofs.Try.Sx.q8 a1 a2 b1 b2 c1 c2 d1 d2 (0 : Nat))
                                                                  (Go.Proofs.Try.Sx.q8 a1 a2 b1 b2 c1 c2 d1 d2 (1 : Nat))
                                                                  (Go.Proofs.Try.Sx.q8 a1 a2 b1 b2 c1 c2 d1 d2 (2 : Nat))
                                                                  (Go.Proofs.Try.Sx.q8 a1 a2 b1 b2 c1 c2 d1 d2 (3 : Nat))
                                                                  (Go.Proofs.Try.Sx.q8 a1 a2 b1 b2 c1 c2 d1 d2 (4 : Nat))
                                                                  (Go.Proofs.Try.Sx.q8 a1 a2 b1 b2 c1 c2 d1 d2
                                                                    (5 : Nat)) =
                                                                (0 : Int))) =
                                                        Bool.true ∧
                                                      Bool.true = Bool.true ∧ R Go.Sx.SV.ff) ∧
                                  ((!Decidable.decide (Go.Geo.cross a1 a2 b1 b2 c1 c2 = (0 : Int)) ==
                                          Decidable.decide
                                            (Go.Geo.cross (Go.Proofs.Try.Sx.q8 a1 a2 b1 b2 c1 c2 d1 d2 (0 : Nat))
                                                (Go.Proofs.Try.Sx.q8 a1 a2 b1 b2 c1 c2 d1 d2 (1 : Nat))
                                                (Go.Proofs.Try.Sx.q8 a1 a2 b1 b2 c1 c2 d1 d2 (2 : Nat))
                                                (Go.Proofs.Try.Sx.q8 a1 a2 b1 b2 c1 c2 d1 d2 (3 : Nat))
                                                (Go.Proofs.Try.Sx.q8 a1 a2 b1 b2 c1 c2 d1 d2 (4 : Nat))
                                                (Go.Proofs.Try.Sx.q8 a1 a2 b1 b2 c1 c2 d1 d2 (5 : Nat)) =
                                              (0 : Int))) =
                                      Bool.false →
                                    (Decidable.decide (Go.Geo.On a1 a2 b1 b2 c1 c2) = Bool.true →
                                        ((!(Decidable.decide (Go.Geo.On a1 a2 b1 b2 c1 c2) &&
                                                    Decidable.decide (Go.Geo.On a1 a2 b1 b2 d1 d2)) ==
                                                  Decidable.decide
                                                    (Go.Geo.On (Go.Proofs.Try.Sx.q8 a1 a2 b1 b2 c1 c2 d1 d2 (0 : Nat))
                                                      (Go.Proofs.Try.Sx.q8 a1 a2 b1 b2 c1 c2 d1 d2 (1 : Nat))
                                                      (Go.Proofs.Try.Sx.q8 a1 a2 b1 b2 c1 c2 d1 d2 (2 : Nat))
                                                      (Go.Proofs.Try.Sx.q8 a1 a2 b1 b2 c1 c2 d1 d2 (3 : Nat))
                                                      (Go.Proofs.Try.Sx.q8 a1 a2 b1 b2 c1 c2 d1 d2 (6 : Nat))
                                                      (Go.Proofs.Try.Sx.q8 a1 a2 b1 b2 c1 c2 d1 d2 (7 : Nat)))) =
                                              Bool.true →
                                            (!Decidable.decide (Go.Geo.On a1 a2 b1 b2 c1 c2) ==
                                                    Decidable.decide (Go.Geo.On a1 a2 b1 b2 c1 c2)) =
                                                Bool.false ∧
                                              (((0 : Int) ≤ (0 : Int) ∧ (0 : Int) < (4 : Int)) ∧ (1 : Nat) ≤ (8 : Nat)) ∧
                                                (2 : Nat) ≤ (8 : Nat) ∧
                                                  (((0 : Int) ≤ (1 : Int) ∧ (1 : Int) < (4 : Int)) ∧
                                                      (1 : Nat) ≤ (8 : Nat)) ∧
                                                    (4 : Nat) ≤ (8 : Nat) ∧
                                                      (((0 : Int) ≤ (2 : Int) ∧ (2 : Int) < (4 : Int)) ∧
                                                          (1 : Nat) ≤ (8 : Nat)) ∧
                                                        (6 : Nat) ≤ (8 : Nat) ∧
                                                          Go.Proofs.Try.Sx.small6
                                                              (Go.Proofs.Try.Sx.q8 a1 a2 b1 b2 c1 c2 d1 d2 (0 : Nat))
                                                              (Go.Proofs.Try.Sx.q8 a1 a2 b1 b2 c1 c2 d1 d2 (1 : Nat))
                                                              (Go.Proofs.Try.Sx.q8 a1 a2 b1 b2 c1 c2 d1 d2 (2 : Nat))
                                                              (Go.Proofs.Try.Sx.q8 a1 a2 b1 b2 c1 c2 d1 d2 (3 : Nat))
                                                              (Go.Proofs.Try.Sx.q8 a1 a2 b1 b2 c1 c2 d1 d2 (4 : Nat))
                                                              (Go.Proofs.Try.Sx.q8 a1 a2 b1 b2 c1 c2 d1 d2 (5 : Nat)) ∧
                                                            (!Decidable.decide
                                                                      (Go.Geo.cross a1 a2 b1 b2 c1 c2 = (0 : Int)) ==
                                                                    Decidable.decide
                                                                      (Go.Geo.cross
                                                                          (Go.Proofs.Try.Sx.q8 a1 a2 b1 b2 c1 c2 d1 d2
                                                                            (0 : Nat))
                                                                          (Go.Proofs.Try.Sx.q8 a1 a2 b1 b2 c1 c2 d1 d2
                                                                            (1 : Nat))
                                                                          (Go.Proofs.Try.Sx.q8 a1 a2 b1 b2 c1 c2 d1 d2
                                                                            (2 : Nat))
                                                                          (Go.Proofs.Try.Sx.q8 a1 a2 b1 b2 c1 c2 d1 d2
                                                                            (3 : Nat))
                                                                          (Go.Proofs.Try.Sx.q8 a1 a2 b1 b2 c1 c2 d1 d2
                                                                            (4 : Nat))
                                                                          (Go.Proofs.Try.Sx.q8 a1 a2 b1 b2 c1 c2 d1 d2
                                                                            (5 : Nat)) =
                                                                        (0 : Int))) =
                                                                Bool.false ∧
                                                              Decidable.decide (Go.Geo.On a1 a2 b1 b2 c1 c2) = Bool.true ∧
                                                                (((0 : Int) ≤ (0 : Int) ∧ (0 : Int) < (4 : Int)) ∧
                                                                    (1 : Nat) ≤ (8 : Nat)) ∧
                                                                  (2 : Nat) ≤ (8 : Nat) ∧
                                                                    (((0 : Int) ≤ (1 : Int) ∧ (1 : Int) < (4 : Int)) ∧
                                                                        (1 : Nat) ≤ (8 : Nat)) ∧
                                                                      (4 : Nat) ≤ (8 : Nat) ∧
                                                                        (((0 : Int) ≤ (3 : Int) ∧ (3 : Int) < (4 : Int)) ∧
                                                                            (1 : Nat) ≤ (8 : Nat)) ∧
                                                                          (8 : Nat) ≤ (8 : Nat) ∧
                                                                            Go.Proofs.Try.Sx.small6
                                                                                (Go.Proofs.Try.Sx.q8 a1 a2 b1 b2 c1 c2 d1
                                                                                  d2 (0 : Nat))
                                                                                (Go.Proofs.Try.Sx.q8 a1 a2 b1 b2 c1 c2 d1
                                                                                  d2 (1 : Nat))
                                                                                (Go.Proofs.Try.Sx.q8 a1 a2 b1 b2 c1 c2 d1
                                                                                  d2 (2 : Nat))
                                                                                (Go.Proofs.Try.Sx.q8 a1 a2 b1 b2 c1 c2 d1
                                                                                  d2 (3 : Nat))
                                                                                (Go.Proofs.Try.Sx.q8 a1 a2 b1 b2 c1 c2 d1
                                                                                  d2 (6 : Nat))
                                                                                (Go.Proofs.Try.Sx.q8 a1 a2 b1 b2 c1 c2 d1
                                                                                  d2 (7 : Nat)) ∧
                                                                              (!(Decidable.decide
                                                                                          (Go.Geo.On a1 a2 b1 b2 c1 c2) &&
                                                                                        Decidable.decide
                                                                                          (Go.Geo.On a1 a2 b1 b2 d1
                                                                                            d2)) ==
                                                                                      Decidable.decide
                                                                                        (Go.Geo.On
                                                                                          (Go.Proofs.Try.Sx.q8 a1 a2 b1 b2
                                                                                            c1 c2 d1 d2 (0 : Nat))
                                                                                          (Go.Proofs.Try.Sx.q8 a1 a2 b1 b2
                                                                                            c1 c2 d1 d2 (1 : Nat))
                                                                                          (Go.Proofs.Try.Sx.q8 a1 a2 b1 b2
                                                                                            c1 c2 d1 d2 (2 : Nat))
                                                                                          (Go.Proofs.Try.Sx.q8 a1 a2 b1 b2
                                                                                            c1 c2 d1 d2 (3 : Nat))
                                                                                          (Go.Proofs.Try.Sx.q8 a1 a2 b1 b2
                                                                                            c1 c2 d1 d2 (6 : Nat))
                                                                                          (Go.Proofs.Try.Sx.q8 a1 a2 b1 b2
                                                                                            c1 c2 d1 d2 (7 : Nat)))) =
                                                                                  Bool.true ∧
                                                                                Bool.true = Bool.true ∧ R Go.Sx.SV.ff) ∧
                                          ((!(Decidable.decide (Go.Geo.On a1 a2 b1 b2 c1 c2) &&
                                                    Decidable.decide (Go.Geo.On a1 a2 b1 b2 d1 d2)) ==
                                                  Decidable.decide
                                                    (Go.Geo.On (Go.Proofs.Try.Sx.q8 a1 a2 b1 b2 c1 c2 d1 d2 (0 : Nat))
                                                      (Go.Proofs.Try.Sx.q8 a1 a2 b1 b2 c1 c2 d1 d2 (1 : Nat))
                                                      (Go.Proofs.Try.Sx.q8 a1 a2 b1 b2 c1 c2 d1 d2 (2 : Nat))
                                                      (Go.Proofs.Try.Sx.q8 a1 a2 b1 b2 c1 c2 d1 d2 (3 : Nat))
                                                      (Go.Proofs.Try.Sx.q8 a1 a2 b1 b2 c1 c2 d1 d2 (6 : Nat))
                                                      (Go.Proofs.Try.Sx.q8 a1 a2 b1 b2 c1 c2 d1 d2 (7 : Nat)))) =
                                              Bool.false →
                                            (!Decidable.decide (Go.Geo.On a1 a2 b1 b2 c1 c2) ==
                                                    Decidable.decide (Go.Geo.On a1 a2 b1 b2 c1 c2)) =
                                                Bool.false ∧
                                              (((0 : Int) ≤ (0 : Int) ∧ (0 : Int) < (4 : Int)) ∧ (1 : Nat) ≤ (8 : Nat)) ∧
                                                (2 : Nat) ≤ (8 : Nat) ∧
                                                  (((0 : Int) ≤ (1 : Int) ∧ (1 : Int) < (4 : Int)) ∧
                                                      (1 : Nat) ≤ (8 : Nat)) ∧
                                                    (4 : Nat) ≤ (8 : Nat) ∧
                                                      (((0 : Int) ≤ (2 : Int) ∧ (2 : Int) < (4 : Int)) ∧
                                                          (1 : Nat) ≤ (8 : Nat)) ∧
                                                        (6 : Nat) ≤ (8 : Nat) ∧
                                                          Go.Proofs.Try.Sx.small6
                                                              (Go.Proofs.Try.Sx.q8 a1 a2 b1 b2 c1 c2 d1 d2 (0 : Nat))
                                                              (Go.Proofs.Try.Sx.q8 a1 a2 b1 b2 c1 c2 d1 d2 (1 : Nat))
                                                              (Go.Proofs.Try.Sx.q8 a1 a2 b1 b2 c1 c2 d1 d2 (2 : Nat))
                                                              (Go.Proofs.Try.Sx.q8 a1 a2 b1 b2 c1 c2 d1 d2 (3 : Nat))
                                                              (Go.Proofs.Try.Sx.q8 a1 a2 b1 b2 c1 c2 d1 d2 (4 : Nat))
                                                              (Go.Proofs.Try.Sx.q8 a1 a2 b1 b2 c1 c2 d1 d2 (5 : Nat)) ∧
                                                            (!Decidable.decide
                                                                      (Go.Geo.cross a1 a2 b1 b2 c1 c2 = (0 : Int)) ==
                                                                    Decidable.decide
                                                                      (Go.Geo.cross
                                                                          (Go.Proofs.Try.Sx.q8 a1 a2 b1 b2 c1 c2 d1 d2
                                                                            (0 : Nat))
                                                                          (Go.Proofs.Try.Sx.q8 a1 a2 b1 b2 c1 c2 d1 d2
                                                                            (1 : Nat))
                                                                          (Go.Proofs.Try.Sx.q8 a1 a2 b1 b2 c1 c2 d1 d2
                                                                            (2 : Nat))
                                                                          (Go.Proofs.Try.Sx.q8 a1 a2 b1 b2 c1 c2 d1 d2
                                                                            (3 : Nat))
                                                                          (Go.Proofs.Try.Sx.q8 a1 a2 b1 b2 c1 c2 d1 d2
                                                                            (4 : Nat))
                                                                          (Go.Proofs.Try.Sx.q8 a1 a2 b1 b2 c1 c2 d1 d2
                                                                            (5 : Nat)) =
                                                                        (0 : Int))) =
                                                                Bool.false ∧
                                                              Decidable.decide (Go.Geo.On a1 a2 b1 b2 c1 c2) = Bool.true ∧
                                                                (((0 : Int) ≤ (0 : Int) ∧ (0 : Int) < (4 : Int)) ∧
                                                                    (1 : Nat) ≤ (8 : Nat)) ∧
                                                                  (2 : Nat) ≤ (8 : Nat) ∧
                                                                    (((0 : Int) ≤ (1 : Int) ∧ (1 : Int) < (4 : Int)) ∧
                                                                        (1 : Nat) ≤ (8 : Nat)) ∧
                                                                      (4 : Nat) ≤ (8 : Nat) ∧
                                                                        (((0 : Int) ≤ (3 : Int) ∧ (3 : Int) < (4 : Int)) ∧
                                                                            (1 : Nat) ≤ (8 : Nat)) ∧
                                                                          (8 : Nat) ≤ (8 : Nat) ∧
                                                                            Go.Proofs.Try.Sx.small6
                                                                                (Go.Proofs.Try.Sx.q8 a1 a2 b1 b2 c1 c2 d1
                                                                                  d2 (0 : Nat))
                                                                                (Go.Proofs.Try.Sx.q8 a1 a2 b1 b2 c1 c2 d1
                                                                                  d2 (1 : Nat))
                                                                                (Go.Proofs.Try.Sx.q8 a1 a2 b1 b2 c1 c2 d1
                                                                                  d2 (2 : Nat))
                                                                                (Go.Proofs.Try.Sx.q8 a1 a2 b1 b2 c1 c2 d1
                                                                                  d2 (3 : Nat))
                                                                                (Go.Proofs.Try.Sx.q8 a1 a2 b1 b2 c1 c2 d1
                                                                                  d2 (6 : Nat))
                                                                                (Go.Proofs.Try.Sx.q8 a1 a2 b1 b2 c1 c2 d1
                                                                                  d2 (7 : Nat)) ∧
                                                                              (!(Decidable.decide
                                                                                          (Go.Geo.On a1 a2 b1 b2 c1 c2) &&
                                                                                        Decidable.decide
                                                                                          (Go.Geo.On a1 a2 b1 b2 d1
                                                                                            d2)) ==
                                                                                      Decidable.decide
                                                                                        (Go.Geo.On
                                                                                          (Go.Proofs.Try.Sx.q8 a1 a2 b1 b2
                                                                                            c1 c2 d1 d2 (0 : Nat))
                                                                                          (Go.Proofs.Try.Sx.q8 a1 a2 b1 b2
                                                                                            c1 c2 d1 d2 (1 : Nat))
                                                                                          (Go.Proofs.Try.Sx.q8 a1 a2 b1 b2
                                                                                            c1 c2 d1 d2 (2 : Nat))
                                                                                          (Go.Proofs.Try.Sx.q8 a1 a2 b1 b2
                                                                                            c1 c2 d1 d2 (3 : Nat))
                                                                                          (Go.Proofs.Try.Sx.q8 a1 a2 b1 b2
                                                                                            c1 c2 d1 d2 (6 : Nat))
                                                                                          (Go.Proofs.Try.Sx.q8 a1 a2 b1 b2
                                                                                            c1 c2 d1 d2 (7 : Nat)))) =
                                                                                  Bool.false ∧
                                                                                ((0 : Int) ≤ (2 : Int) ∧
                                                                                    (4 : Nat) ≤ (8 : Nat)) ∧
                                                                                  ((1 : Nat) ≤ (2 : Nat) ∧
                                                                                      (4 : Nat) ≤ (8 : Nat) ∧
                                                                                        (2 : Nat) ≤ (1000000 : Nat)) ∧
                                                                                    Bool.true = Bool.true ∧
                                                                                      ((!(Go.Proofs.Try.Sx.lo a1 b1 ==
                                                                                                  Go.Proofs.Try.Sx.mn
                                                                                                    (Go.Proofs.Try.Sx.q8
                                                                                                      a1 a2 b1 b2 c1 c2 d1
                                                                                                      d2)
                                                                                                    (0 : Nat) (2 : Nat) &&
                                                                                                (Go.Proofs.Try.Sx.lo a2
                                                                                                      b2 ==
                                                                                                    Go.Proofs.Try.Sx.mn
                                                                                                      (Go.Proofs.Try.Sx.q8
                                                                                                        a1 a2 b1 b2 c1 c2
                                                                                                        d1 d2)
                                                                                                      (1 : Nat)
                                                                                                      (2 : Nat) &&
                                                                                                  (Go.Proofs.Try.Sx.hi a1
                                                                                                        b1 ==
                                                                                                      Go.Proofs.Try.Sx.mx
                                                                                                        (Go.Proofs.Try.Sx.q8
                                                                                                          a1 a2 b1 b2 c1
                                                                                                          c2 d1 d2)
                                                                                                        (0 : Nat)
                                                                                                        (2 : Nat) &&
                                                                                                    (Go.Proofs.Try.Sx.hi
                                                                                                          a2 b2 ==
                                                                                                        Go.Proofs.Try.Sx.mx
                                                                                                          (Go.Proofs.Try.Sx.q8
                                                                                                            a1 a2 b1 b2 c1
                                                                                                            c2 d1 d2)
                                                                                                          (1 : Nat)
                                                                                                          (2 : Nat) &&
                                                                                                      Bool.true))))) =
                                                                                            Bool.true →
                                                                                          R Go.Sx.SV.ff) ∧
                                                                                        ((!(Go.Proofs.Try.Sx.lo a1 b1 ==
                                                                                                  Go.Proofs.Try.Sx.mn
                                                                                                    (Go.Proofs.Try.Sx.q8
                                                                                                      a1 a2 b1 b2 c1 c2 d1
                                                                                                      d2)
                                                                                                    (0 : Nat) (2 : Nat) &&
                                                                                                (Go.Proofs.Try.Sx.lo a2
                                                                                                      b2 ==
                                                                                                    Go.Proofs.Try.Sx.mn
                                                                                                      (Go.Proofs.Try.Sx.q8
                                                                                                        a1 a2 b1 b2 c1 c2
                                                                                                        d1 d2)
                                                                                                      (1 : Nat)
                                                                                                      (2 : Nat) &&
                                                                                                  (Go.Proofs.Try.Sx.hi a1
                                                                                                        b1 ==
                                                                                                      Go.Proofs.Try.Sx.mx
                                                                                                        (Go.Proofs.Try.Sx.q8
                                                                                                          a1 a2 b1 b2 c1
                                                                                                          c2 d1 d2)
                                                                                                        (0 : Nat)
                                                                                                        (2 : Nat) &&
                                                                                                    (Go.Proofs.Try.Sx.hi
                                                                                                          a2 b2 ==
                                                                                                        Go.Proofs.Try.Sx.mx
                                                                                                          (Go.Proofs.Try.Sx.q8
                                                                                                            a1 a2 b1 b2 c1
                                                                                                            c2 d1 d2)
                                                                                                          (1 : Nat)
                                                                                                          (2 : Nat) &&
                                                                                                      Bool.true))))) =
                                                                                            Bool.false →
                                                                                          ∃ (j : Nat),
                                                                                            Go.Proofs.Try.Sx.sm8 a1 a2 b1
                                                                                                b2 c1 c2 d1 d2 ∧
                                                                                              ((True ∧
                                                                                                    (4 : Nat) =
                                                                                                      (4 : Nat)) ∧
                                                                                                  (True ∧
                                                                                                      (0 : Nat) =
                                                                                                        (0 : Nat)) ∧
                                                                                                    True) ∧
                                                                                                True ∧
                                                                                                  ((52 : Nat) =
                                                                                                        (52 : Nat) ∧
                                                                                                      (0 : Nat) =
                                                                                                          (0 : Nat) ∧
                                                                                                        Decidable.decide
                                                                                                              (Go.Geo.On
                                                                                                                a1 a2 b1
                                                                                                                b2 c1
                                                                                                                c2) =
                                                                                                            Decidable.decide
                                                                                                              (Go.Geo.On
                                                                                                                a1 a2 b1
                                                                                                                b2 c1
                                                                                                                c2) ∧
                                                                                                          Decidable.decide
                                                                                                                (Go.Geo.cross
                                                                                                                    a1 a2
                                                                                                                    b1 b2
                                                                                                                    c1
                                                                                                                    c2 =
                                                                                                                  (0 :
                                                                                                                    Int)) =
                                                                                                              Decidable.decide
                                                                                                                (Go.Geo.cross
                                                                                                                    a1 a2
                                                                                                                    b1 b2
                                                                                                                    c1
                                                                                                                    c2 =
                                                                                                                  (0 :
                                                                                                                    Int)) ∧
                                                                                                            (Decidable.decide
                                                                                                                    (Go.Geo.On
                                                                                                                      a1
                                                                                                                      a2
                                                                                                                      b1
                                                                                                                      b2
                                                                                                                      c1
                                                                                                                      c2) &&
                                                                                                                  Decidable.decide
                                                                                                                    (Go.Geo.On
                                                                                                                      a1
                                                                                                                      a2
                                                                                                                      b1
                                                                                                                      b2
                                                                                                                      d1
                                                                                                                      d2)) =
                                                                                                                (Decidable.decide
                                                                                                                    (Go.Geo.On
                                                                                                                      a1
                                                                                                                      a2
                                                                                                                      b1
                                                                                                                      b2
                                                                                                                      c1
                                                                                                                      c2) &&
                                                                                                                  Decidable.decide
                                                                                                                    (Go.Geo.On
                                                                                                                      a1
                                                                                                                      a2
                                                                                                                      b1
                                                                                                                      b2
                                                                                                                      d1
                                                                                                                      d2)) ∧
                                                                                                              Decidable.decide
                                                                                                                    (Go.Proofs.Try.Sx.Isec
                                                                                                                      a1
                                                                                                                      a2
                                                                                                                      b1
                                                                                                                      b2
                                                                                                                      c1
                                                                                                                      c2
                                                                                                                      d1
                                                                                                                      d2) =
                                                                                                                  Decidable.decide
                                                                                                                    (Go.Proofs.Try.Sx.Isec
                                                                                                                      a1
                                                                                                                      a2
                                                                                                                      b1
                                                                                                                      b2
                                                                                                                      c1
                                                                                                                      c2
                                                                                                                      d1
                                                                                                                      d2) ∧
                                                                                                                Go.Proofs.Try.Sx.lo
                                                                                                                      a1
                                                                                                                      b1 =
                                                                                                                    Go.Proofs.Try.Sx.lo
                                                                                                                      a1
                                                                                                                      b1 ∧
                                                                                                                  Go.Proofs.Try.Sx.lo
                                                                                                                        a2
                                                                                                                        b2 =
                                                                                                                      Go.Proofs.Try.Sx.lo
                                                                                                                        a2
                                                                                                                        b2 ∧
                                                                                                                    Go.Proofs.Try.Sx.hi
                                                                                                                          a1
                                                                                                                          b1 =
                                                                                                                        Go.Proofs.Try.Sx.hi
                                                                                                                          a1
                                                                                                                          b1 ∧
                                                                                                                      Go.Proofs.Try.Sx.hi
                                                                                                                            a2
                                                                                                                            b2 =
                                                                                                                          Go.Proofs.Try.Sx.hi
                                                                                                                            a2
                                                                                                                            b2 ∧
                                                                                                                        True) ∧
                                                                                                    True ∧
                                                                                                      ((31 : Nat) =
                                                                                                            (31 : Nat) ∧
                                                                                                          (2 : Nat) =
                                                                                                              (2 : Nat) ∧
                                                                                                            (8 : Nat) ≤
                                                                                                                (8 :
                                                                                                                  Nat) ∧
                                                                                                              ∀ (i : Nat),
                                                                                                                i <
                                                                                                                    (8 :
                                                                                                                      Nat) →
                                                                                                                  Go.Proofs.Try.Sx.q8
                                                                                                                      a1
                                                                                                                      a2
                                                                                                                      b1
                                                                                                                      b2
                                                                                                                      c1
                                                                                                                      c2
                                                                                                                      d1
                                                                                                                      d2
                                                                                                                      i =
                                                                                                                    Go.Proofs.Try.Sx.q8
                                                                                                                      a1
                                                                                                                      a2
                                                                                                                      b1
                                                                                                                      b2
                                                                                                                      c1
                                                                                                                      c2
                                                                                                                      d1
                                                                                                                      d2
                                                                                                                      i) ∧
                                                                                                        True))) ∧
                                      (Decidable.decide (Go.Geo.On a1 a2 b1 b2 c1 c2) = Bool.false →
                                        ((!(Decidable.decide (Go.Geo.On a1 a2 b1 b2 c1 c2) &&
                                                    Decidable.decide (Go.Geo.On a1 a2 b1 b2 d1 d2)) ==
                                                  Bool.false) =
                                              Bool.true →
                                            (!Decidable.decide (Go.Geo.On a1 a2 b1 b2 c1 c2) ==
                                                    Decidable.decide (Go.Geo.On a1 a2 b1 b2 c1 c2)) =
                                                Bool.false ∧
                                              (((0 : Int) ≤ (0 : Int) ∧ (0 : Int) < (4 : Int)) ∧ (1 : Nat) ≤ (8 : Nat)) ∧
                                                (2 : Nat) ≤ (8 : Nat) ∧
                                                  (((0 : Int) ≤ (1 : Int) ∧ (1 : Int) < (4 : Int)) ∧
                                                      (1 : Nat) ≤ (8 : Nat)) ∧
                                                    (4 : Nat) ≤ (8 : Nat) ∧
                                                      (((0 : Int) ≤ (2 : Int) ∧ (2 : Int) < (4 : Int)) ∧
                                                          (1 : Nat) ≤ (8 : Nat)) ∧
                                                        (6 : Nat) ≤ (8 : Nat) ∧
                                                          Go.Proofs.Try.Sx.small6
                                                              (Go.Proofs.Try.Sx.q8 a1 a2 b1 b2 c1 c2 d1 d2 (0 : Nat))
                                                              (Go.Proofs.Try.Sx.q8 a1 a2 b1 b2 c1 c2 d1 d2 (1 : Nat))
                                                              (Go.Proofs.Try.Sx.q8 a1 a2 b1 b2 c1 c2 d1 d2 (2 : Nat))
                                                              (Go.Proofs.Try.Sx.q8 a1 a2 b1 b2 c1 c2 d1 d2 (3 : Nat))
                                                              (Go.Proofs.Try.Sx.q8 a1 a2 b1 b2 c1 c2 d1 d2 (4 : Nat))
                                                              (Go.Proofs.Try.Sx.q8 a1 a2 b1 b2 c1 c2 d1 d2 (5 : Nat)) ∧
                                                            (!Decidable.decide
                                                                      (Go.Geo.cross a1 a2 b1 b2 c1 c2 = (0 : Int)) ==
                                                                    Decidable.decide
                                                                      (Go.Geo.cross
                                                                          (Go.Proofs.Try.Sx.q8 a1 a2 b1 b2 c1 c2 d1 d2
                                                                            (0 : Nat))
                                                                          (Go.Proofs.Try.Sx.q8 a1 a2 b1 b2 c1 c2 d1 d2
                                                                            (1 : Nat))
                                                                          (Go.Proofs.Try.Sx.q8 a1 a2 b1 b2 c1 c2 d1 d2
                                                                            (2 : Nat))
                                                                          (Go.Proofs.Try.Sx.q8 a1 a2 b1 b2 c1 c2 d1 d2
                                                                            (3 : Nat))
                                                                          (Go.Proofs.Try.Sx.q8 a1 a2 b1 b2 c1 c2 d1 d2
                                                                            (4 : Nat))
                                                                          (Go.Proofs.Try.Sx.q8 a1 a2 b1 b2 c1 c2 d1 d2
                                                                            (5 : Nat)) =
                                                                        (0 : Int))) =
                                                                Bool.false ∧
                                                              Decidable.decide (Go.Geo.On a1 a2 b1 b2 c1 c2) =
                                                                  Bool.false ∧
                                                                (!(Decidable.decide (Go.Geo.On a1 a2 b1 b2 c1 c2) &&
                                                                          Decidable.decide
                                                                            (Go.Geo.On a1 a2 b1 b2 d1 d2)) ==
                                                                        Bool.false) =
                                                                    Bool.true ∧
                                                                  Bool.true = Bool.true ∧ R Go.Sx.SV.ff) ∧
                                          ((!(Decidable.decide (Go.Geo.On a1 a2 b1 b2 c1 c2) &&
                                                    Decidable.decide (Go.Geo.On a1 a2 b1 b2 d1 d2)) ==
                                                  Bool.false) =
                                              Bool.false →
                                            (!Decidable.decide (Go.Geo.On a1 a2 b1 b2 c1 c2) ==
                                                    Decidable.decide (Go.Geo.On a1 a2 b1 b2 c1 c2)) =
                                                Bool.false ∧
                                              (((0 : Int) ≤ (0 : Int) ∧ (0 : Int) < (4 : Int)) ∧ (1 : Nat) ≤ (8 : Nat)) ∧
                                                (2 : Nat) ≤ (8 : Nat) ∧
                                                  (((0 : Int) ≤ (1 : Int) ∧ (1 : Int) < (4 : Int)) ∧
                                                      (1 : Nat) ≤ (8 : Nat)) ∧
                                                    (4 : Nat) ≤ (8 : Nat) ∧
                                                      (((0 : Int) ≤ (2 : Int) ∧ (2 : Int) < (4 : Int)) ∧
                                                          (1 : Nat) ≤ (8 : Nat)) ∧
                                                        (6 : Nat) ≤ (8 : Nat) ∧
                                                          Go.Proofs.Try.Sx.small6
                                                              (Go.Proofs.Try.Sx.q8 a1 a2 b1 b2 c1 c2 d1 d2 (0 : Nat))
                                                              (Go.Proofs.Try.Sx.q8 a1 a2 b1 b2 c1 c2 d1 d2 (1 : Nat))
                                                              (Go.Proofs.Try.Sx.q8 a1 a2 b1 b2 c1 c2 d1 d2 (2 : Nat))
                                                              (Go.Proofs.Try.Sx.q8 a1 a2 b1 b2 c1 c2 d1 d2 (3 : Nat))
                                                              (Go.Proofs.Try.Sx.q8 a1 a2 b1 b2 c1 c2 d1 d2 (4 : Nat))
                                                              (Go.Proofs.Try.Sx.q8 a1 a2 b1 b2 c1 c2 d1 d2 (5 : Nat)) ∧
                                                            (!Decidable.decide
                                                                      (Go.Geo.cross a1 a2 b1 b2 c1 c2 = (0 : Int)) ==
                                                                    Decidable.decide
                                                                      (Go.Geo.cross
                                                                          (Go.Proofs.Try.Sx.q8 a1 a2 b1 b2 c1 c2 d1 d2
                                                                            (0 : Nat))
                                                                          (Go.Proofs.Try.Sx.q8 a1 a2 b1 b2 c1 c2 d1 d2
                                                                            (1 : Nat))
                                                                          (Go.Proofs.Try.Sx.q8 a1 a2 b1 b2 c1 c2 d1 d2
                                                                            (2 : Nat))
                                                                          (Go.Proofs.Try.Sx.q8 a1 a2 b1 b2 c1 c2 d1 d2
                                                                            (3 : Nat))
                                                                          (Go.Proofs.Try.Sx.q8 a1 a2 b1 b2 c1 c2 d1 d2
                                                                            (4 : Nat))
                                                                          (Go.Proofs.Try.Sx.q8 a1 a2 b1 b2 c1 c2 d1 d2
                                                                            (5 : Nat)) =
                                                                        (0 : Int))) =
                                                                Bool.false ∧
                                                              Decidable.decide (Go.Geo.On a1 a2 b1 b2 c1 c2) =
                                                                  Bool.false ∧
                                                                (!(Decidable.decide (Go.Geo.On a1 a2 b1 b2 c1 c2) &&
                                                                          Decidable.decide
                                                                            (Go.Geo.On a1 a2 b1 b2 d1 d2)) ==
                                                                        Bool.false) =
                                                                    Bool.false ∧
                                                                  ((0 : Int) ≤ (2 : Int) ∧ (4 : Nat) ≤ (8 : Nat)) ∧
                                                                    ((1 : Nat) ≤ (2 : Nat) ∧
                                                                        (4 : Nat) ≤ (8 : Nat) ∧
                                                                          (2 : Nat) ≤ (1000000 : Nat)) ∧
                                                                      Bool.true = Bool.true ∧
                                                                        ((!(Go.Proofs.Try.Sx.lo a1 b1 ==
                                                                                    Go.Proofs.Try.Sx.mn
                                                                                      (Go.Proofs.Try.Sx.q8 a1 a2 b1 b2 c1
                                                                                        c2 d1 d2)
                                                                                      (0 : Nat) (2 : Nat) &&
                                                                                  (Go.Proofs.Try.Sx.lo a2 b2 ==
                                                                                      Go.Proofs.Try.Sx.mn
                                                                                        (Go.Proofs.Try.Sx.q8 a1 a2 b1 b2
                                                                                          c1 c2 d1 d2)
                                                                                        (1 : Nat) (2 : Nat) &&
                                                                                    (Go.Proofs.Try.Sx.hi a1 b1 ==
                                                                                        Go.Proofs.Try.Sx.mx
                                                                                          (Go.Proofs.Try.Sx.q8 a1 a2 b1 b2
                                                                                            c1 c2 d1 d2)
                                                                                          (0 : Nat) (2 : Nat) &&
                                                                                      (Go.Proofs.Try.Sx.hi a2 b2 ==
                                                                                          Go.Proofs.Try.Sx.mx
                                                                                            (Go.Proofs.Try.Sx.q8 a1 a2 b1
                                                                                              b2 c1 c2 d1 d2)
                                                                                            (1 : Nat) (2 : Nat) &&
                                                                                        Bool.true))))) =
                                                                              Bool.true →
                                                                            R Go.Sx.SV.ff) ∧
                                                                          ((!(Go.Proofs.Try.Sx.lo a1 b1 ==
                                                                                    Go.Proofs.Try.Sx.mn
                                                                                      (Go.Proofs.Try.Sx.q8 a1 a2 b1 b2 c1
                                                                                        c2 d1 d2)
                                                                                      (0 : Nat) (2 : Nat) &&
                                                                                  (Go.Proofs.Try.Sx.lo a2 b2 ==
                                                                                      Go.Proofs.Try.Sx.mn
                                                                                        (Go.Proofs.Try.Sx.q8 a1 a2 b1 b2
                                                                                          c1 c2 d1 d2)
                                                                                        (1 : Nat) (2 : Nat) &&
                                                                                    (Go.Proofs.Try.Sx.hi a1 b1 ==
                                                                                        Go.Proofs.Try.Sx.mx
                                                                                          (Go.Proofs.Try.Sx.q8 a1 a2 b1 b2
                                                                                            c1 c2 d1 d2)
                                                                                          (0 : Nat) (2 : Nat) &&
                                                                                      (Go.Proofs.Try.Sx.hi a2 b2 ==
                                                                                          Go.Proofs.Try.Sx.mx
                                                                                            (Go.Proofs.Try.Sx.q8 a1 a2 b1
                                                                                              b2 c1 c2 d1 d2)
                                                                                            (1 : Nat) (2 : Nat) &&
                                                                                        Bool.true))))) =
                                                                              Bool.false →
                                                                            ∃ (j : Nat),
                                                                              Go.Proofs.Try.Sx.sm8 a1 a2 b1 b2 c1 c2 d1
                                                                                  d2 ∧
                                                                                ((True ∧ (4 : Nat) = (4 : Nat)) ∧
                                                                                    (True ∧ (0 : Nat) = (0 : Nat)) ∧
                                                                                      True) ∧
                                                                                  True ∧
                                                                                    ((52 : Nat) = (52 : Nat) ∧
                                                                                        (0 : Nat) = (0 : Nat) ∧
                                                                                          Decidable.decide
                                                                                                (Go.Geo.On a1 a2 b1 b2 c1
                                                                                                  c2) =
                                                                                              Decidable.decide
                                                                                                (Go.Geo.On a1 a2 b1 b2 c1
                                                                                                  c2) ∧
                                                                                            Decidable.decide
                                                                                                  (Go.Geo.cross a1 a2 b1
                                                                                                      b2 c1 c2 =
                                                                                                    (0 : Int)) =
                                                                                                Decidable.decide
                                                                                                  (Go.Geo.cross a1 a2 b1
                                                                                                      b2 c1 c2 =
                                                                                                    (0 : Int)) ∧
                                                                                              (Decidable.decide
                                                                                                      (Go.Geo.On a1 a2 b1
                                                                                                        b2 c1 c2) &&
                                                                                                    Decidable.decide
                                                                                                      (Go.Geo.On a1 a2 b1
                                                                                                        b2 d1 d2)) =
                                                                                                  (Decidable.decide
                                                                                                      (Go.Geo.On a1 a2 b1
                                                                                                        b2 c1 c2) &&
                                                                                                    Decidable.decide
                                                                                                      (Go.Geo.On a1 a2 b1
                                                                                                        b2 d1 d2)) ∧
                                                                                                Decidable.decide
                                                                                                      (Go.Proofs.Try.Sx.Isec
                                                                                                        a1 a2 b1 b2 c1 c2
                                                                                                        d1 d2) =
                                                                                                    Decidable.decide
                                                                                                      (Go.Proofs.Try.Sx.Isec
                                                                                                        a1 a2 b1 b2 c1 c2
                                                                                                        d1 d2) ∧
                                                                                                  Go.Proofs.Try.Sx.lo a1
                                                                                                        b1 =
                                                                                                      Go.Proofs.Try.Sx.lo
                                                                                                        a1 b1 ∧
                                                                                                    Go.Proofs.Try.Sx.lo a2
                                                                                                          b2 =
                                                                                                        Go.Proofs.Try.Sx.lo
                                                                                                          a2 b2 ∧
                                                                                                      Go.Proofs.Try.Sx.hi
                                                                                                            a1 b1 =
                                                                                                          Go.Proofs.Try.Sx.hi
                                                                                                            a1 b1 ∧
                                                                                                        Go.Proofs.Try.Sx.hi
                                                                                                              a2 b2 =
                                                                                                            Go.Proofs.Try.Sx.hi
                                                                                                              a2 b2 ∧
                                                                                                          True) ∧
                                                                                      True ∧
                                                                                        ((31 : Nat) = (31 : Nat) ∧
                                                                                            (2 : Nat) = (2 : Nat) ∧
                                                                                              (8 : Nat) ≤ (8 : Nat) ∧
                                                                                                ∀ (i : Nat),
                                                                                                  i < (8 : Nat) →
                                                                                                    Go.Proofs.Try.Sx.q8 a1
                                                                                                        a2 b1 b2 c1 c2 d1
                                                                                                        d2 i =
                                                                                                      Go.Proofs.Try.Sx.q8
                                                                                                        a1 a2 b1 b2 c1 c2
                                                                                                        d1 d2 i) ∧
                                                                                          True)))))) ∧
                            ∀ (j : Nat),
                              Go.Proofs.Try.Sx.sm8 a1 a2 b1 b2 c1 c2 d1 d2 →
                                ((((0 : Int) ≤ (0 : Int) ∧ (0 : Int) < (4 : Int)) ∧ (1 : Nat) ≤ (8 : Nat)) ∧
                                    (2 : Nat) ≤ (8 : Nat) ∧
                                      (((0 : Int) ≤ (1 : Int) ∧ (1 : Int) < (4 : Int)) ∧ (1 : Nat) ≤ (8 : Nat)) ∧
                                        (4 : Nat) ≤ (8 : Nat) ∧
                                          (((0 : Int) ≤ (2 : Int) ∧ (2 : Int) < (4 : Int)) ∧ (1 : Nat) ≤ (8 : Nat)) ∧
                                            (6 : Nat) ≤ (8 : Nat) ∧
                                              (((0 : Int) ≤ (3 : Int) ∧ (3 : Int) < (4 : Int)) ∧ (1 : Nat) ≤ (8 : Nat)) ∧
                                                (8 : Nat) ≤ (8 : Nat) ∧
                                                  Go.Proofs.Try.Sx.sm8
                                                      (Go.Proofs.Try.Sx.q8 a1 a2 b1 b2 c1 c2 d1 d2 (0 : Nat))
                                                      (Go.Proofs.Try.Sx.q8 a1 a2 b1 b2 c1 c2 d1 d2 (1 : Nat))
                                                      (Go.Proofs.Try.Sx.q8 a1 a2 b1 b2 c1 c2 d1 d2 (2 : Nat))
                                                      (Go.Proofs.Try.Sx.q8 a1 a2 b1 b2 c1 c2 d1 d2 (3 : Nat))
                                                      (Go.Proofs.Try.Sx.q8 a1 a2 b1 b2 c1 c2 d1 d2 (4 : Nat))
                                                      (Go.Proofs.Try.Sx.q8 a1 a2 b1 b2 c1 c2 d1 d2 (5 : Nat))
                                                      (Go.Proofs.Try.Sx.q8 a1 a2 b1 b2 c1 c2 d1 d2 (6 : Nat))
                                                      (Go.Proofs.Try.Sx.q8 a1 a2 b1 b2 c1 c2 d1 d2 (7 : Nat)) ∧
                                                    Bool.true = Bool.true ∧
                                                      ∃ (j : Nat),
                                                        Go.Proofs.Try.Sx.sm8 a1 a2 b1 b2 c1 c2 d1 d2 ∧
                                                          ((True ∧ (4 : Nat) = (4 : Nat)) ∧
                                                              (True ∧ (0 : Nat) = (0 : Nat)) ∧
                                                                Decidable.decide
                                                                      (Go.Proofs.Try.Sx.GMeet
                                                                        (Go.Proofs.Try.Sx.q8 a1 a2 b1 b2 c1 c2 d1 d2
                                                                          (0 : Nat))
                                                                        (Go.Proofs.Try.Sx.q8 a1 a2 b1 b2 c1 c2 d1 d2
                                                                          (1 : Nat))
                                                                        (Go.Proofs.Try.Sx.q8 a1 a2 b1 b2 c1 c2 d1 d2
                                                                          (2 : Nat))
                                                                        (Go.Proofs.Try.Sx.q8 a1 a2 b1 b2 c1 c2 d1 d2
                                                                          (3 : Nat))
                                                                        (Go.Proofs.Try.Sx.q8 a1 a2 b1 b2 c1 c2 d1 d2
                                                                          (4 : Nat))
                                                                        (Go.Proofs.Try.Sx.q8 a1 a2 b1 b2 c1 c2 d1 d2
                                                                          (5 : Nat))
                                                                        (Go.Proofs.Try.Sx.q8 a1 a2 b1 b2 c1 c2 d1 d2
                                                                          (6 : Nat))
                                                                        (Go.Proofs.Try.Sx.q8 a1 a2 b1 b2 c1 c2 d1 d2
                                                                          (7 : Nat))) =
                                                                    Decidable.decide
                                                                      (Go.Proofs.Try.Sx.GMeet a1 a2 b1 b2 c1 c2 d1 d2) ∧
                                                                  True) ∧
                                                            True ∧
                                                              ((52 : Nat) = (52 : Nat) ∧
                                                                  (0 : Nat) = (0 : Nat) ∧
                                                                    Decidable.decide (Go.Geo.On a1 a2 b1 b2 c1 c2) =
                                                                        Decidable.decide (Go.Geo.On a1 a2 b1 b2 c1 c2) ∧
                                                                      Decidable.decide
                                                                            (Go.Geo.cross a1 a2 b1 b2 c1 c2 = (0 : Int)) =
                                                                          Decidable.decide
                                                                            (Go.Geo.cross a1 a2 b1 b2 c1 c2 = (0 : Int)) ∧
                                                                        (Decidable.decide (Go.Geo.On a1 a2 b1 b2 c1 c2) &&
                                                                              Decidable.decide
                                                                                (Go.Geo.On a1 a2 b1 b2 d1 d2)) =
                                                                            (Decidable.decide
                                                                                (Go.Geo.On a1 a2 b1 b2 c1 c2) &&
                                                                              Decidable.decide
                                                                                (Go.Geo.On a1 a2 b1 b2 d1 d2)) ∧
                                                                          Decidable.decide
                                                                                (Go.Proofs.Try.Sx.Isec a1 a2 b1 b2 c1 c2
                                                                                  d1 d2) =
                                                                              Decidable.decide
                                                                                (Go.Proofs.Try.Sx.Isec a1 a2 b1 b2 c1 c2
                                                                                  d1 d2) ∧
                                                                            Go.Proofs.Try.Sx.lo a1 b1 =
                                                                                Go.Proofs.Try.Sx.lo a1 b1 ∧
                                                                              Go.Proofs.Try.Sx.lo a2 b2 =
                                                                                  Go.Proofs.Try.Sx.lo a2 b2 ∧
                                                                                Go.Proofs.Try.Sx.hi a1 b1 =
                                                                                    Go.Proofs.Try.Sx.hi a1 b1 ∧
                                                                                  Go.Proofs.Try.Sx.hi a2 b2 =
                                                                                      Go.Proofs.Try.Sx.hi a2 b2 ∧
                                                                                    True) ∧
                                                                True ∧
                                                                  ((31 : Nat) = (31 : Nat) ∧
                                                                      (2 : Nat) = (2 : Nat) ∧
                                                                        (8 : Nat) ≤ (8 : Nat) ∧
                                                                          ∀ (i : Nat),
                                                                            i < (8 : Nat) →
                                                                              Go.Proofs.Try.Sx.q8 a1 a2 b1 b2 c1 c2 d1 d2
                                                                                  i =
                                                                                Go.Proofs.Try.Sx.q8 a1 a2 b1 b2 c1 c2 d1
                                                                                  d2 i) ∧
                                                                    True) ∧
                                  ∀ (j : Nat),
                                    Go.Proofs.Try.Sx.sm8 a1 a2 b1 b2 c1 c2 d1 d2 →
                                      (Decidable.decide
                                              (Go.Proofs.Try.Sx.GCov
                                                (Go.Proofs.Try.Sx.q8 a1 a2 b1 b2 c1 c2 d1 d2 (0 : Nat))
                                                (Go.Proofs.Try.Sx.q8 a1 a2 b1 b2 c1 c2 d1 d2 (1 : Nat))
                                                (Go.Proofs.Try.Sx.q8 a1 a2 b1 b2 c1 c2 d1 d2 (2 : Nat))
                                                (Go.Proofs.Try.Sx.q8 a1 a2 b1 b2 c1 c2 d1 d2 (3 : Nat))
                                                (Go.Proofs.Try.Sx.q8 a1 a2 b1 b2 c1 c2 d1 d2 (4 : Nat))
                                                (Go.Proofs.Try.Sx.q8 a1 a2 b1 b2 c1 c2 d1 d2 (5 : Nat))
                                                (Go.Proofs.Try.Sx.q8 a1 a2 b1 b2 c1 c2 d1 d2 (6 : Nat))
                                                (Go.Proofs.Try.Sx.q8 a1 a2 b1 b2 c1 c2 d1 d2 (7 : Nat))) =
                                            Bool.true →
                                          (((0 : Int) ≤ (0 : Int) ∧ (0 : Int) < (4 : Int)) ∧ (1 : Nat) ≤ (8 : Nat)) ∧
                                            (2 : Nat) ≤ (8 : Nat) ∧
                                              (((0 : Int) ≤ (1 : Int) ∧ (1 : Int) < (4 : Int)) ∧ (1 : Nat) ≤ (8 : Nat)) ∧
                                                (4 : Nat) ≤ (8 : Nat) ∧
                                                  (((0 : Int) ≤ (2 : Int) ∧ (2 : Int) < (4 : Int)) ∧
                                                      (1 : Nat) ≤ (8 : Nat)) ∧
                                                    (6 : Nat) ≤ (8 : Nat) ∧
                                                      (((0 : Int) ≤ (3 : Int) ∧ (3 : Int) < (4 : Int)) ∧
                                                          (1 : Nat) ≤ (8 : Nat)) ∧
                                                        (8 : Nat) ≤ (8 : Nat) ∧
                                                          Go.Proofs.Try.Sx.sm8
                                                              (Go.Proofs.Try.Sx.q8 a1 a2 b1 b2 c1 c2 d1 d2 (0 : Nat))
                                                              (Go.Proofs.Try.Sx.q8 a1 a2 b1 b2 c1 c2 d1 d2 (1 : Nat))
                                                              (Go.Proofs.Try.Sx.q8 a1 a2 b1 b2 c1 c2 d1 d2 (2 : Nat))
                                                              (Go.Proofs.Try.Sx.q8 a1 a2 b1 b2 c1 c2 d1 d2 (3 : Nat))
                                                              (Go.Proofs.Try.Sx.q8 a1 a2 b1 b2 c1 c2 d1 d2 (4 : Nat))
                                                              (Go.Proofs.Try.Sx.q8 a1 a2 b1 b2 c1 c2 d1 d2 (5 : Nat))
                                                              (Go.Proofs.Try.Sx.q8 a1 a2 b1 b2 c1 c2 d1 d2 (6 : Nat))
                                                              (Go.Proofs.Try.Sx.q8 a1 a2 b1 b2 c1 c2 d1 d2 (7 : Nat)) ∧
                                                            Decidable.decide
                                                                  (Go.Proofs.Try.Sx.GCov
                                                                    (Go.Proofs.Try.Sx.q8 a1 a2 b1 b2 c1 c2 d1 d2
                                                                      (0 : Nat))
                                                                    (Go.Proofs.Try.Sx.q8 a1 a2 b1 b2 c1 c2 d1 d2
                                                                      (1 : Nat))
                                                                    (Go.Proofs.Try.Sx.q8 a1 a2 b1 b2 c1 c2 d1 d2
                                                                      (2 : Nat))
                                                                    (Go.Proofs.Try.Sx.q8 a1 a2 b1 b2 c1 c2 d1 d2
                                                                      (3 : Nat))
                                                                    (Go.Proofs.Try.Sx.q8 a1 a2 b1 b2 c1 c2 d1 d2
                                                                      (4 : Nat))
                                                                    (Go.Proofs.Try.Sx.q8 a1 a2 b1 b2 c1 c2 d1 d2
                                                                      (5 : Nat))
                                                                    (Go.Proofs.Try.Sx.q8 a1 a2 b1 b2 c1 c2 d1 d2
                                                                      (6 : Nat))
                                                                    (Go.Proofs.Try.Sx.q8 a1 a2 b1 b2 c1 c2 d1 d2
                                                                      (7 : Nat))) =
                                                                Bool.true ∧
                                                              Bool.true = Bool.true ∧ R Go.Sx.SV.tt) ∧
                                        (Decidable.decide
                                              (Go.Proofs.Try.Sx.GCov
                                                (Go.Proofs.Try.Sx.q8 a1 a2 b1 b2 c1 c2 d1 d2 (0 : Nat))
                                                (Go.Proofs.Try.Sx.q8 a1 a2 b1 b2 c1 c2 d1 d2 (1 : Nat))
                                                (Go.Proofs.Try.Sx.q8 a1 a2 b1 b2 c1 c2 d1 d2 (2 : Nat))
                                                (Go.Proofs.Try.Sx.q8 a1 a2 b1 b2 c1 c2 d1 d2 (3 : Nat))
                                                (Go.Proofs.Try.Sx.q8 a1 a2 b1 b2 c1 c2 d1 d2 (4 : Nat))
                                                (Go.Proofs.Try.Sx.q8 a1 a2 b1 b2 c1 c2 d1 d2 (5 : Nat))
                                                (Go.Proofs.Try.Sx.q8 a1 a2 b1 b2 c1 c2 d1 d2 (6 : Nat))
                                                (Go.Proofs.Try.Sx.q8 a1 a2 b1 b2 c1 c2 d1 d2 (7 : Nat))) =
                                            Bool.false →
                                          ((Decidable.decide (Go.Proofs.Try.Sx.Isec a1 a2 b1 b2 c1 c2 d1 d2) ==
                                                  Decidable.decide (Go.Proofs.Try.Sx.GMeet a1 a2 b1 b2 c1 c2 d1 d2)) =
                                                Bool.true →
                                              (((0 : Int) ≤ (0 : Int) ∧ (0 : Int) < (4 : Int)) ∧ (1 : Nat) ≤ (8 : Nat)) ∧
                                                (2 : Nat) ≤ (8 : Nat) ∧
                                                  (((0 : Int) ≤ (1 : Int) ∧ (1 : Int) < (4 : Int)) ∧
                                                      (1 : Nat) ≤ (8 : Nat)) ∧
                                                    (4 : Nat) ≤ (8 : Nat) ∧
                                                      (((0 : Int) ≤ (2 : Int) ∧ (2 : Int) < (4 : Int)) ∧
                                                          (1 : Nat) ≤ (8 : Nat)) ∧
                                                        (6 : Nat) ≤ (8 : Nat) ∧
                                                          (((0 : Int) ≤ (3 : Int) ∧ (3 : Int) < (4 : Int)) ∧
                                                              (1 : Nat) ≤ (8 : Nat)) ∧
                                                            (8 : Nat) ≤ (8 : Nat) ∧
                                                              Go.Proofs.Try.Sx.sm8
                                                                  (Go.Proofs.Try.Sx.q8 a1 a2 b1 b2 c1 c2 d1 d2 (0 : Nat))
                                                                  (Go.Proofs.Try.Sx.q8 a1 a2 b1 b2 c1 c2 d1 d2 (1 : Nat))
                                                                  (Go.Proofs.Try.Sx.q8 a1 a2 b1 b2 c1 c2 d1 d2 (2 : Nat))
                                                                  (Go.Proofs.Try.Sx.q8 a1 a2 b1 b2 c1 c2 d1 d2 (3 : Nat))
                                                                  (Go.Proofs.Try.Sx.q8 a1 a2 b1 b2 c1 c2 d1 d2 (4 : Nat))
                                                                  (Go.Proofs.Try.Sx.q8 a1 a2 b1 b2 c1 c2 d1 d2 (5 : Nat))
                                                                  (Go.Proofs.Try.Sx.q8 a1 a2 b1 b2 c1 c2 d1 d2 (6 : Nat))
                                                                  (Go.Proofs.Try.Sx.q8 a1 a2 b1 b2 c1 c2 d1 d2
                                                                    (7 : Nat)) ∧
                                                                Decidable.decide
                                                                      (Go.Proofs.Try.Sx.GCov
                                                                        (Go.Proofs.Try.Sx.q8 a1 a2 b1 b2 c1 c2 d1 d2
                                                                          (0 : Nat))
                                                                        (Go.Proofs.Try.Sx.q8 a1 a2 b1 b2 c1 c2 d1 d2
                                                                          (1 : Nat))
                                                                        (Go.Proofs.Try.Sx.q8 a1 a2 b1 b2 c1 c2 d1 d2
                                                                          (2 : Nat))
                                                                        (Go.Proofs.Try.Sx.q8 a1 a2 b1 b2 c1 c2 d1 d2
                                                                          (3 : Nat))
                                                                        (Go.Proofs.Try.Sx.q8 a1 a2 b1 b2 c1 c2 d1 d2
                                                                          (4 : Nat))
                                                                        (Go.Proofs.Try.Sx.q8 a1 a2 b1 b2 c1 c2 d1 d2
                                                                          (5 : Nat))
                                                                        (Go.Proofs.Try.Sx.q8 a1 a2 b1 b2 c1 c2 d1 d2
                                                                          (6 : Nat))
                                                                        (Go.Proofs.Try.Sx.q8 a1 a2 b1 b2 c1 c2 d1 d2
                                                                          (7 : Nat))) =
                                                                    Bool.false ∧
                                                                  (Decidable.decide
                                                                          (Go.Proofs.Try.Sx.Isec a1 a2 b1 b2 c1 c2 d1
                                                                            d2) ==
                                                                        Decidable.decide
                                                                          (Go.Proofs.Try.Sx.GMeet a1 a2 b1 b2 c1 c2 d1
                                                                            d2)) =
                                                                      Bool.true ∧
                                                                    Bool.true = Bool.true ∧ R Go.Sx.SV.tt) ∧
                                            ((Decidable.decide (Go.Proofs.Try.Sx.Isec a1 a2 b1 b2 c1 c2 d1 d2) ==
                                                  Decidable.decide (Go.Proofs.Try.Sx.GMeet a1 a2 b1 b2 c1 c2 d1 d2)) =
                                                Bool.false →
                                              (((0 : Int) ≤ (0 : Int) ∧ (0 : Int) < (4 : Int)) ∧ (1 : Nat) ≤ (8 : Nat)) ∧
                                                (2 : Nat) ≤ (8 : Nat) ∧
                                                  (((0 : Int) ≤ (1 : Int) ∧ (1 : Int) < (4 : Int)) ∧
                                                      (1 : Nat) ≤ (8 : Nat)) ∧
                                                    (4 : Nat) ≤ (8 : Nat) ∧
                                                      (((0 : Int) ≤ (2 : Int) ∧ (2 : Int) < (4 : Int)) ∧
                                                          (1 : Nat) ≤ (8 : Nat)) ∧
                                                        (6 : Nat) ≤ (8 : Nat) ∧
                                                          (((0 : Int) ≤ (3 : Int) ∧ (3 : Int) < (4 : Int)) ∧
                                                              (1 : Nat) ≤ (8 : Nat)) ∧
                                                            (8 : Nat) ≤ (8 : Nat) ∧
                                                              Go.Proofs.Try.Sx.sm8
                                                                  (Go.Proofs.Try.Sx.q8 a1 a2 b1 b2 c1 c2 d1 d2 (0 : Nat))
                                                                  (Go.Proofs.Try.Sx.q8 a1 a2 b1 b2 c1 c2 d1 d2 (1 : Nat))
                                                                  (Go.Proofs.Try.Sx.q8 a1 a2 b1 b2 c1 c2 d1 d2 (2 : Nat))
                                                                  (Go.Proofs.Try.Sx.q8 a1 a2 b1 b2 c1 c2 d1 d2 (3 : Nat))
                                                                  (Go.Proofs.Try.Sx.q8 a1 a2 b1 b2 c1 c2 d1 d2 (4 : Nat))
                                                                  (Go.Proofs.Try.Sx.q8 a1 a2 b1 b2 c1 c2 d1 d2 (5 : Nat))
                                                                  (Go.Proofs.Try.Sx.q8 a1 a2 b1 b2 c1 c2 d1 d2 (6 : Nat))
                                                                  (Go.Proofs.Try.Sx.q8 a1 a2 b1 b2 c1 c2 d1 d2
                                                                    (7 : Nat)) ∧
                                                                Decidable.decide
                                                                      (Go.Proofs.Try.Sx.GCov
                                                                        (Go.Proofs.Try.Sx.q8 a1 a2 b1 b2 c1 c2 d1 d2
                                                                          (0 : Nat))
                                                                        (Go.Proofs.Try.Sx.q8 a1 a2 b1 b2 c1 c2 d1 d2
                                                                          (1 : Nat))
                                                                        (Go.Proofs.Try.Sx.q8 a1 a2 b1 b2 c1 c2 d1 d2
                                                                          (2 : Nat))
                                                                        (Go.Proofs.Try.Sx.q8 a1 a2 b1 b2 c1 c2 d1 d2
                                                                          (3 : Nat))
                                                                        (Go.Proofs.Try.Sx.q8 a1 a2 b1 b2 c1 c2 d1 d2
                                                                          (4 : Nat))
                                                                        (Go.Proofs.Try.Sx.q8 a1 a2 b1 b2 c1 c2 d1 d2
                                                                          (5 : Nat))
                                                                        (Go.Proofs.Try.Sx.q8 a1 a2 b1 b2 c1 c2 d1 d2
                                                                          (6 : Nat))
                                                                        (Go.Proofs.Try.Sx.q8 a1 a2 b1 b2 c1 c2 d1 d2
                                                                          (7 : Nat))) =
                                                                    Bool.false ∧
                                                                  (Decidable.decide
                                                                          (Go.Proofs.Try.Sx.Isec a1 a2 b1 b2 c1 c2 d1
                                                                            d2) ==
                                                                        Decidable.decide
                                                                          (Go.Proofs.Try.Sx.GMeet a1 a2 b1 b2 c1 c2 d1
                                                                            d2)) =
                                                                      Bool.false ∧
                                                                    Bool.true = Bool.true ∧ R Go.Sx.SV.ff))) := by kernel_rfl
theorem lawSeg : PureOk Try.prog 5 lawSegF := by
  refine pure_of_vc gSL Try.func5 rfl (by kernel_rfl) ?_
  intro args v p h hp
  unfold lawSegF at h
  split at h
  · rename_i a1 a2 b1 b2 c1 c2 d1 d2
    injection h with h; injection h with h1 h2; subst h1; subst h2
    clear hp
    refine ⟨rfl, _, _, (vc_lawSeg _ a1 a2 b1 b2 c1 c2 d1 d2).mpr ?_⟩
    have q0 : q8 a1 a2 b1 b2 c1 c2 d1 d2 0 = a1 := rfl
    have q1 : q8 a1 a2 b1 b2 c1 c2 d1 d2 1 = a2 := rfl
    have q2 : q8 a1 a2 b1 b2 c1 c2 d1 d2 2 = b1 := rfl
    have q3 : q8 a1 a2 b1 b2 c1 c2 d1 d2 3 = b2 := rfl
    have q4 : q8 a1 a2 b1 b2 c1 c2 d1 d2 4 = c1 := rfl
    have q5 : q8 a1 a2 b1 b2 c1 c2 d1 d2 5 = c2 := rfl
    have q6 : q8 a1 a2 b1 b2 c1 c2 d1 d2 6 = d1 := rfl
    have q7 : q8 a1 a2 b1 b2 c1 c2 d1 d2 7 = d2 := rfl
    have r1 : mn (q8 a1 a2 b1 b2 c1 c2 d1 d2) 0 2 = lo a1 b1 := mn2 _ _
    have r2 : mn (q8 a1 a2 b1 b2 c1 c2 d1 d2) 1 2 = lo a2 b2 := mn2 _ _
    have r3 : mx (q8 a1 a2 b1 b2 c1 c2 d1 d2) 0 2 = hi a1 b1 := mx2 _ _
    have r4 : mx (q8 a1 a2 b1 b2 c1 c2 d1 d2) 1 2 = hi a2 b2 := mx2 _ _
    rw [q0, q1, q2, q3, q4, q5, q6, q7, r1, r2, r3, r4]
    refine ⟨⟨⟨rfl, by omega⟩, 0, trivial, by simp [q8]⟩, fun _ _ => ⟨⟨⟨rfl, by omega⟩, fun _ => trivial, fun hg => ⟨0, ?_, by simp⟩⟩, fun _ hs => ⟨⟨hs, 0, hs, by simp⟩, fun _ _ => ?_⟩⟩⟩
    · have hall : geoAll 8 (q8 a1 a2 b1 b2 c1 c2 d1 d2) = true := by simpa using hg
      have hall := of_decide_eq_true hall
      exact ⟨⟨hall 0 (by decide), hall 1 (by decide), hall 2 (by decide), hall 3 (by decide)⟩, hall 4 (by decide), hall 5 (by decide), hall 6 (by decide), hall 7 (by decide)⟩
    · have m1 : small6 a1 a2 b1 b2 c1 c2 := ⟨⟨hs.1.1, hs.1.2.1⟩, ⟨hs.1.2.2.1, hs.1.2.2.2⟩, hs.2.1, hs.2.2.1⟩
      have m2 : small6 a1 a2 b1 b2 d1 d2 := ⟨⟨hs.1.1, hs.1.2.1⟩, ⟨hs.1.2.2.1, hs.1.2.2.2⟩, hs.2.2.2.1, hs.2.2.2.2⟩
      have hk : ¬ GCov a1 a2 b1 b2 c1 c2 d1 d2 → decide (Isec a1 a2 b1 b2 c1 c2 d1 d2) = decide (GMeet a1 a2 b1 b2 c1 c2 d1 d2) := fun h => decide_eq_decide.2 (Isec_GMeet h)
      generalize decide (Isec a1 a2 b1 b2 c1 c2 d1 d2) = I at *
      generalize decide (GMeet a1 a2 b1 b2 c1 c2 d1 d2) = J at *
      simp [m1, m2, hs, eqv]
      grind
  · cases h
end Go.Proofs.Try.Sx
