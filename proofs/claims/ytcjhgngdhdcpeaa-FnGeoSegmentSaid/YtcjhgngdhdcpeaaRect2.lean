/- impl.RectAsk: what a rectangle says, by whole numbers. -/
import Derived.Test.YtcjhgngdhdcpeaaRect1
namespace Go.Proofs.Try.Sx
open Go Go.Sx Go.Proofs Go.Fl Go.Geo
set_option maxRecDepth 100000

def GRA : Ctx := ⟨⟨tys, []⟩, [(28, pureCon ptF), (32, pureCon mkRectF), (33, pureCon rHasF), (34, pureCon rMeetPF), (35, pureCon rInF), (36, pureCon rMeetF), (37, pureCon rEmptyF), (38, pureCon rValidF), (39, pureCon rConvexF), (40, pureCon rClockF), (41, pureCon rAreaF), (42, pureCon rCenterF), (43, pureCon rNumPF), (44, pureCon fromPF), (45, pureCon rPointAtF), (46, pureCon rNumSF), (47, pureCon rSegAtF)]⟩
theorem gRA : CtxOk Try.prog GRA := ⟨⟨tysOk, FlatsOk.nil⟩, GamOk.cons (.pure pt) (GamOk.cons (.pure mkRect) (GamOk.cons (.pure rHas) (GamOk.cons (.pure rMeetP) (GamOk.cons (.pure rIn) (GamOk.cons (.pure rMeet) (GamOk.cons (.pure rEmpty) (GamOk.cons (.pure rValid) (GamOk.cons (.pure rConvex) (GamOk.cons (.pure rClock) (GamOk.cons (.pure rArea) (GamOk.cons (.pure rCenter) (GamOk.cons (.pure rNumP) (GamOk.cons (.pure fromP) (GamOk.cons (.pure rPointAt) (GamOk.cons (.pure rNumS) (GamOk.cons (.pure rSegAt) GamOk.nil)))))))))))))))), by kernel_rfl⟩

/-! ### Floats of small whole numbers -/
theorem fi {n : Int} (h : small n) : FI (ofI .f64 n) n := FI_ofInt (by unfold small at h; omega)
theorem fi' {n : Int} (h : n.natAbs < 2 ^ 53) : FI (ofI .f64 n) n := FI_ofInt h
theorem toI_of {n : Int} (h : small n) : toIok .f64 (ofI .f64 n) .i64 ∧ toI .f64 (ofI .f64 n) .i64 = n := toI_FI (fi h) (by unfold small at h; omega)
theorem ge_of {a b : Int} (ha : small a) (hb : small b) : fGe .f64 (ofI .f64 a) (ofI .f64 b) = decide (b ≤ a) := fge_I (fi ha) (fi hb)
theorem le_of {a b : Int} (ha : small a) (hb : small b) : fLe .f64 (ofI .f64 a) (ofI .f64 b) = decide (a ≤ b) := fle_I (fi ha) (fi hb)
theorem lt_of {a b : Int} (ha : small a) (hb : small b) : fLt .f64 (ofI .f64 a) (ofI .f64 b) = decide (a < b) := flt_I (fi ha) (fi hb)
theorem gt_of {a b : Int} (ha : small a) (hb : small b) : fGt .f64 (ofI .f64 a) (ofI .f64 b) = decide (b < a) := fgt_I (fi ha) (fi hb)
theorem eq_of {a b : Int} (ha : small a) (hb : small b) : fEq .f64 (ofI .f64 a) (ofI .f64 b) = decide (a = b) := feq_I (fi ha) (fi hb)
theorem sub_of {a b : Int} (ha : small a) (hb : small b) : fok .sub .f64 (ofI .f64 a) (ofI .f64 b) ∧ FI (fop .sub .f64 (ofI .f64 a) (ofI .f64 b)) (a - b) :=
  sub_I (fi ha) (fi hb) (by unfold small at ha; omega) (by unfold small at hb; omega)
theorem fop_of {op : BinOp} {x y r : Nat} (h : floatBits op .f64 x y = some r) : fok op .f64 x y ∧ fop op .f64 x y = r := by
  unfold fok fop
  rw [h]; exact ⟨rfl, rfl⟩
theorem add_of {a b : Int} (ha : small a) (hb : small b) : fok .add .f64 (ofI .f64 a) (ofI .f64 b) ∧ FI (fop .add .f64 (ofI .f64 a) (ofI .f64 b)) (a + b) := by
  obtain ⟨r, h1, h2⟩ := FI_add (fi ha) (fi hb) (by unfold small at ha hb; omega)
  obtain ⟨h3, h4⟩ := fop_of (op := .add) h1
  exact ⟨h3, by rw [h4]; exact h2⟩
theorem mul_of {x y : Nat} {a b : Int} (hx : FI x a) (hy : FI y b) (h : (a * b).natAbs < 2 ^ 53) : fok .mul .f64 x y ∧ FI (fop .mul .f64 x y) (a * b) := by
  obtain ⟨r, h1, h2⟩ := FI_mul hx hy h
  obtain ⟨h3, h4⟩ := fop_of (op := .mul) h1
  exact ⟨h3, by rw [h4]; exact h2⟩

def center (a c : Int) : Nat := fdiv (fop .add .f64 (ofI .f64 c) (ofI .f64 a)) 4611686018427387904
theorem center_of {a c : Int} (ha : small a) (hc : small c) : fok .add .f64 (ofI .f64 c) (ofI .f64 a) ∧ fdok (fop .add .f64 (ofI .f64 c) (ofI .f64 a)) 4611686018427387904 ∧
    fok .mul .f64 4611686018427387904 (center a c) ∧ toIok .f64 (fop .mul .f64 4611686018427387904 (center a c)) .i64 ∧ toI .f64 (fop .mul .f64 4611686018427387904 (center a c)) .i64 = a + c := by
  obtain ⟨h1, h2⟩ := add_of hc ha
  have hd : fdok (fop .add .f64 (ofI .f64 c) (ofI .f64 a)) 4611686018427387904 := by
    obtain ⟨q, h3, _⟩ := div_QV h2 two_FI (by decide) (by decide) (by unfold small at ha hc; omega)
    have h4 : floatBits .quo .f64 (fop .add .f64 (ofI .f64 c) (ofI .f64 a)) 4611686018427387904 = some q := h3
    unfold fdok; rw [h4]; rfl
  have hq : QuoRel .f64 (fop .add .f64 (ofI .f64 c) (ofI .f64 a)) 4611686018427387904 (center a c) := by
    unfold QuoRel center fdiv
    unfold fdok at hd
    cases h : floatBits .quo .f64 (fop .add .f64 (ofI .f64 c) (ofI .f64 a)) 4611686018427387904 with
    | none => rw [h] at hd; cases hd
    | some v => rfl
  have hh := half_div hq h2 two_FI (by unfold small at ha hc; omega)
  obtain ⟨r, h5, h6⟩ := FH_two hh two_FI (by unfold small at ha hc; omega)
  obtain ⟨h7, h8⟩ := fop_of (op := .mul) h5
  obtain ⟨h9, h10⟩ := toI_FI h6 (by unfold small at ha hc; omega)
  exact ⟨h1, hd, h7, by rw [h8]; exact h9, by rw [h8, h10]; omega⟩

def area (a b c d : Int) : Nat := fop .mul .f64 (fop .sub .f64 (ofI .f64 c) (ofI .f64 a)) (fop .sub .f64 (ofI .f64 d) (ofI .f64 b))
theorem area_of {a b c d : Int} (ha : small a) (hb : small b) (hc : small c) (hd : small d) : fok .mul .f64 (fop .sub .f64 (ofI .f64 c) (ofI .f64 a)) (fop .sub .f64 (ofI .f64 d) (ofI .f64 b)) ∧ FI (area a b c d) ((c - a) * (d - b)) := by
  refine mul_of (sub_of hc ha).2 (sub_of hd hb).2 ?_
  unfold small at ha hb hc hd
  have := mul_bound (show (c - a).natAbs ≤ 2097152 by omega) (show (d - b).natAbs ≤ 2097152 by omega)
  omega

def vld (x y : Int) : Bool := decide (-180 ≤ x ∧ x ≤ 180 ∧ -90 ≤ y ∧ y ≤ 90)
theorem fi_lit {n : Int} {x : Nat} (e : FloatKind.f64.nearest n = x) (h : n.natAbs < 2 ^ 53) : FI x n := by
  have := FI_ofInt h
  rw [e] at this; exact this
theorem pvalid_of {x y : Int} (hx : small x) (hy : small y) : pvalid (ofI .f64 x) (ofI .f64 y) = vld x y := by
  unfold pvalid vld
  rw [fge_I (fi hx) (fi_lit (n := -180) (by decide) (by decide)), fle_I (fi hx) (fi_lit (n := 180) (by decide) (by decide)), fge_I (fi hy) (fi_lit (n := -90) (by decide) (by decide)), fle_I (fi hy) (fi_lit (n := 90) (by decide) (by decide))]
  simp [Bool.and_assoc]

/-! ### RectAsk -/
def sm4 (a b c d : Int) : Prop := small a ∧ small b ∧ small c ∧ small d
def hasI (a b c d x y : Int) : Bool := decide (a ≤ x ∧ x ≤ c ∧ b ≤ y ∧ y ≤ d)
def inI (a b c d p q r s : Int) : Bool := decide (a ≤ p ∧ r ≤ c ∧ b ≤ q ∧ s ≤ d)
def meetI (a b c d p q r s : Int) : Bool := decide (b ≤ s ∧ q ≤ d ∧ a ≤ r ∧ p ≤ c)
theorem has_of {a b c d x y : Int} (ha : small a) (hb : small b) (hc : small c) (hd : small d) (hx : small x) (hy : small y) :
    (fGe .f64 (ofI .f64 x) (ofI .f64 a) && fLe .f64 (ofI .f64 x) (ofI .f64 c) && fGe .f64 (ofI .f64 y) (ofI .f64 b) && fLe .f64 (ofI .f64 y) (ofI .f64 d)) = hasI a b c d x y := by
  rw [ge_of hx ha, le_of hx hc, ge_of hy hb, le_of hy hd]
  unfold hasI
  grind
theorem in_of {a b c d p q r s : Int} (ha : small a) (hb : small b) (hc : small c) (hd : small d) (hp : small p) (hq : small q) (hr : small r) (hs : small s) :
    (!fLt .f64 (ofI .f64 p) (ofI .f64 a) && !fGt .f64 (ofI .f64 r) (ofI .f64 c) && !fLt .f64 (ofI .f64 q) (ofI .f64 b) && !fGt .f64 (ofI .f64 s) (ofI .f64 d)) = inI a b c d p q r s := by
  rw [lt_of hp ha, gt_of hr hc, lt_of hq hb, gt_of hs hd]
  unfold inI
  grind
theorem meet_of {a b c d p q r s : Int} (ha : small a) (hb : small b) (hc : small c) (hd : small d) (hp : small p) (hq : small q) (hr : small r) (hs : small s) :
    (!fGt .f64 (ofI .f64 b) (ofI .f64 s) && !fLt .f64 (ofI .f64 d) (ofI .f64 q) && !fGt .f64 (ofI .f64 a) (ofI .f64 r) && !fLt .f64 (ofI .f64 c) (ofI .f64 p)) = meetI a b c d p q r s := by
  rw [gt_of hb hs, lt_of hd hq, gt_of ha hr, lt_of hc hp]
  unfold meetI
  grind
def pts5 (a b c d : Int) (j : Nat) : Int := [a, b, c, b, c, d, a, d, a, b].getD j 0
def sgs4 (a b c d : Int) (j : Nat) : Int := [a, b, c, b, c, b, c, d, c, d, a, d, a, d, a, b].getD j 0

theorem pt_of {a b c d : Int} (h : sm4 a b c d) {i : Nat} (hi : i ≤ 4) : toIok .f64 (ptAt (ofI .f64 a) (ofI .f64 b) (ofI .f64 c) (ofI .f64 d) i).1 .i64 ∧ toIok .f64 (ptAt (ofI .f64 a) (ofI .f64 b) (ofI .f64 c) (ofI .f64 d) i).2 .i64 ∧
    toI .f64 (ptAt (ofI .f64 a) (ofI .f64 b) (ofI .f64 c) (ofI .f64 d) i).1 .i64 = pts5 a b c d (2 * i) ∧ toI .f64 (ptAt (ofI .f64 a) (ofI .f64 b) (ofI .f64 c) (ofI .f64 d) i).2 .i64 = pts5 a b c d (2 * i + 1) := by
  obtain ⟨ha, hb, hc, hd⟩ := h
  have ta := toI_of ha
  have tb := toI_of hb
  have tc := toI_of hc
  have td := toI_of hd
  have : i = 0 ∨ i = 1 ∨ i = 2 ∨ i = 3 ∨ i = 4 := by omega
  rcases this with rfl | rfl | rfl | rfl | rfl <;> simp [ptAt, pts5, ta, tb, tc, td]
theorem sg_of {a b c d : Int} {i : Nat} (hi : i ≤ 3) : sgs4 a b c d (4 * i) = pts5 a b c d (2 * i) ∧ sgs4 a b c d (4 * i + 1) = pts5 a b c d (2 * i + 1) ∧ sgs4 a b c d (4 * i + 2) = pts5 a b c d (2 * (i + 1)) ∧ sgs4 a b c d (4 * i + 3) = pts5 a b c d (2 * (i + 1) + 1) := by
  have : i = 0 ∨ i = 1 ∨ i = 2 ∨ i = 3 := by omega
  rcases this with rfl | rfl | rfl | rfl <;> exact ⟨rfl, rfl, rfl, rfl⟩

def outC (a b c d p q r s x y : Int) (u v : SV) : List SV := [.bool (hasI a b c d x y), .bool (hasI a b c d x y), .bool (inI a b c d p q r s), .bool (meetI a b c d p q r s), .ff, .bool (vld a b && vld c d), .tt, .ff, .flt .f64 (area a b c d), .int .i64 (a + c), .int .i64 (b + d), u, v]
def z41 : List SV := [.ff, .ff, .ff, .ff, .ff, .ff, .ff, .ff, .flt .f64 0, .int .i64 0, .int .i64 0, .nils, .nils]
def flt4 (a b c d : Int) : List SV := [.flt .f64 (ofI .f64 a), .flt .f64 (ofI .f64 b), .flt .f64 (ofI .f64 c), .flt .f64 (ofI .f64 d)]

def ask1 (a b c d p q r s x y : Int) : Fam := ⟨Nat, fun i =>
  ⟨91, [(6, .ptr 0 0), (7, .ptr 1 0), (8, .ptr 2 0), (10, .int .i64 i)], [(0, ⟨true, 41, .cells z41, 0⟩), (1, ⟨true, 68, .cells (flt4 a b c d), 0⟩), (2, ⟨true, 41, .cells (outC a b c d p q r s x y (.slcc 3 i) .nils), 0⟩), (3, ⟨true, 23, .ints .i64 (2 * i) (pts5 a b c d), 2⟩)], 4⟩, fun i => i ≤ 5, fun i => 5 - i⟩
def ask2 (a b c d p q r s x y : Int) : Fam := ⟨Nat, fun i =>
  ⟨91, [(6, .ptr 0 0), (7, .ptr 1 0), (8, .ptr 2 0), (11, .int .i64 i)], [(0, ⟨true, 41, .cells z41, 0⟩), (1, ⟨true, 68, .cells (flt4 a b c d), 0⟩), (2, ⟨true, 41, .cells (outC a b c d p q r s x y (.slcc 3 5) (.slcc 4 i)), 0⟩), (3, ⟨true, 23, .ints .i64 10 (pts5 a b c d), 2⟩), (4, ⟨true, 33, .ints .i64 (4 * i) (sgs4 a b c d), 4⟩)], 5⟩, fun i => i ≤ 4, fun i => 4 - i⟩

def outB (a b c d p q r s x y : Int) (e f : Int) : List SV := [.bool (hasI a b c d x y), .bool (hasI a b c d x y), .bool (inI a b c d p q r s), .bool (meetI a b c d p q r s), .ff, .bool (vld a b && vld c d), .tt, .ff, .flt .f64 (area a b c d), .int .i64 e, .int .i64 f, .nils, .nils]
def rc3 (a b c d p q r s x y : Int) : Fam := ⟨Nat, fun _ =>
  ⟨91, [(6, .ptr 0 0), (7, .ptr 1 0), (8, .ptr 2 0)], [(0, ⟨true, 41, .cells z41, 0⟩), (1, ⟨true, 68, .cells (flt4 a b c d), 0⟩), (2, ⟨true, 41, .cells (outB a b c d p q r s x y 0 0), 0⟩)], 3⟩, fun _ => True, fun _ => 0⟩
def rc4 (a b c d p q r s x y : Int) : Fam := ⟨Nat, fun _ =>
  ⟨91, [(6, .ptr 0 0), (7, .ptr 1 0), (8, .ptr 2 0), (9, .ptr 3 0)], [(0, ⟨true, 41, .cells z41, 0⟩), (1, ⟨true, 68, .cells (flt4 a b c d), 0⟩), (2, ⟨true, 41, .cells (outB a b c d p q r s x y 0 0), 0⟩), (3, ⟨true, 61, .cells [.flt .f64 (center a c), .flt .f64 (center b d)], 0⟩)], 4⟩, fun _ => True, fun _ => 0⟩
def rc5 (a b c d p q r s x y : Int) : Fam := ⟨Nat, fun _ =>
  ⟨91, [(6, .ptr 0 0), (7, .ptr 1 0), (8, .ptr 2 0)], [(0, ⟨true, 41, .cells z41, 0⟩), (1, ⟨true, 68, .cells (flt4 a b c d), 0⟩), (2, ⟨true, 41, .cells (outB a b c d p q r s x y (a + c) (b + d)), 0⟩)], 3⟩, fun _ => True, fun _ => 0⟩
def rc9 (a b c d p q r s x y : Int) : Fam := ⟨Nat, fun _ =>
  ⟨91, [(6, .ptr 0 0), (7, .ptr 1 0), (8, .ptr 2 0)], [(0, ⟨true, 41, .cells z41, 0⟩), (1, ⟨true, 68, .cells (flt4 a b c d), 0⟩), (2, ⟨true, 41, .cells (outC a b c d p q r s x y (.slcc 3 5) .nils), 0⟩), (3, ⟨true, 23, .ints .i64 10 (pts5 a b c d), 2⟩)], 4⟩, fun _ => True, fun _ => 0⟩

noncomputable def rectAskC : List SV → RdM
  | [.agg [.int .i64 a, .int .i64 b, .int .i64 c, .int .i64 d], .agg [.int .i64 p, .int .i64 q, .int .i64 r, .int .i64 s], .agg [.int .i64 x, .int .i64 y]] => .ret ⟨[.agg [.int .i64 a, .int .i64 b, .int .i64 c, .int .i64 d], .agg [.int .i64 p, .int .i64 q, .int .i64 r, .int .i64 s], .agg [.int .i64 x, .int .i64 y]], [], .agg (outC a b c d p q r s x y (.slcc 0 5) (.slcc 1 4)), [], [(0, ⟨true, 23, .ints .i64 10 (pts5 a b c d), 2⟩), (1, ⟨true, 33, .ints .i64 16 (sgs4 a b c d), 4⟩)], some (sm4 a b c d ∧ sm4 p q r s ∧ small x ∧ small y)⟩
  | _ => .fail
theorem vc_rectAsk (a b c d p q r s x y : Int) : runA GRA 0 [(6, ask1 a b c d p q r s x y), (10, ask2 a b c d p q r s x y)] [(3, rc3 a b c d p q r s x y), (4, rc4 a b c d p q r s x y), (5, rc5 a b c d p q r s x y), (9, rc9 a b c d p q r s x y)] (codeOf Try.f14) (init Try.f14.ntmps [.agg [.int .i64 a, .int .i64 b, .int .i64 c, .int .i64 d], .agg [.int .i64 p, .int .i64 q, .int .i64 r, .int .i64 s], .agg [.int .i64 x, .int .i64 y]] [] 0) (endK GRA.E.T Try.f14.results.toList fun S v => postP 0 ⟨[.agg [.int .i64 a, .int .i64 b, .int .i64 c, .int .i64 d], .agg [.int .i64 p, .int .i64 q, .int .i64 r, .int .i64 s], .agg [.int .i64 x, .int .i64 y]], [], .agg (outC a b c d p q r s x y (.slcc 0 5) (.slcc 1 4)), [], [(0, ⟨true, 23, .ints .i64 10 (pts5 a b c d), 2⟩), (1, ⟨true, 33, .ints .i64 16 (sgs4 a b c d), 4⟩)], some (sm4 a b c d ∧ sm4 p q r s ∧ small x ∧ small y)⟩ S v) = (
  ((Go.Sx.fok Go.BinOp.sub Go.FloatKind.f64 (Go.Sx.ofI Go.FloatKind.f64 c) (Go.Sx.ofI Go.FloatKind.f64 a) ∧
        Go.Sx.fok Go.BinOp.sub Go.FloatKind.f64 (Go.Sx.ofI Go.FloatKind.f64 d) (Go.Sx.ofI Go.FloatKind.f64 b) ∧
          Go.Sx.fok Go.BinOp.mul Go.FloatKind.f64
            (Go.Sx.fop Go.BinOp.sub Go.FloatKind.f64 (Go.Sx.ofI Go.FloatKind.f64 c) (Go.Sx.ofI Go.FloatKind.f64 a))
            (Go.Sx.fop Go.BinOp.sub Go.FloatKind.f64 (Go.Sx.ofI Go.FloatKind.f64 d) (Go.Sx.ofI Go.FloatKind.f64 b))) ∧
      Bool.true = Bool.true ∧
        ∃ (j : Nat),
          True ∧
            ((True ∧ (0 : Nat) = (0 : Nat)) ∧ (True ∧ (0 : Nat) = (0 : Nat)) ∧ (True ∧ (0 : Nat) = (0 : Nat)) ∧ True) ∧
              True ∧
                ((41 : Nat) = (41 : Nat) ∧
                    (0 : Nat) = (0 : Nat) ∧
                      True ∧
                        True ∧
                          True ∧
                            True ∧
                              True ∧
                                True ∧
                                  True ∧
                                    True ∧
                                      (0 : Nat) = (0 : Nat) ∧
                                        (0 : Int) = (0 : Int) ∧ (0 : Int) = (0 : Int) ∧ True ∧ True ∧ True) ∧
                  True ∧
                    ((68 : Nat) = (68 : Nat) ∧
                        (0 : Nat) = (0 : Nat) ∧
                          Go.Sx.ofI Go.FloatKind.f64 a = Go.Sx.ofI Go.FloatKind.f64 a ∧
                            Go.Sx.ofI Go.FloatKind.f64 b = Go.Sx.ofI Go.FloatKind.f64 b ∧
                              Go.Sx.ofI Go.FloatKind.f64 c = Go.Sx.ofI Go.FloatKind.f64 c ∧
                                Go.Sx.ofI Go.FloatKind.f64 d = Go.Sx.ofI Go.FloatKind.f64 d ∧ True) ∧
                      True ∧
                        ((41 : Nat) = (41 : Nat) ∧
                            (0 : Nat) = (0 : Nat) ∧
                              (Go.Sx.fGe Go.FloatKind.f64 (Go.Sx.ofI Go.FloatKind.f64 x) (Go.Sx.ofI Go.FloatKind.f64 a) &&
                                        Go.Sx.fLe Go.FloatKind.f64 (Go.Sx.ofI Go.FloatKind.f64 x)
                                          (Go.Sx.ofI Go.FloatKind.f64 c) &&
                                      Go.Sx.fGe Go.FloatKind.f64 (Go.Sx.ofI Go.FloatKind.f64 y)
                                        (Go.Sx.ofI Go.FloatKind.f64 b) &&
                                    Go.Sx.fLe Go.FloatKind.f64 (Go.Sx.ofI Go.FloatKind.f64 y)
                                      (Go.Sx.ofI Go.FloatKind.f64 d)) =
                                  Go.Proofs.Try.Sx.hasI a b c d x y ∧
                                (Go.Sx.fGe Go.FloatKind.f64 (Go.Sx.ofI Go.FloatKind.f64 x)
                                            (Go.Sx.ofI Go.FloatKind.f64 a) &&
                                          Go.Sx.fLe Go.FloatKind.f64 (Go.Sx.ofI Go.FloatKind.f64 x)
                                            (Go.Sx.ofI Go.FloatKind.f64 c) &&
                                        Go.Sx.fGe Go.FloatKind.f64 (Go.Sx.ofI Go.FloatKind.f64 y)
                                          (Go.Sx.ofI Go.FloatKind.f64 b) &&
                                      Go.Sx.fLe Go.FloatKind.f64 (Go.Sx.ofI Go.FloatKind.f64 y)
                                        (Go.Sx.ofI Go.FloatKind.f64 d)) =
                                    Go.Proofs.Try.Sx.hasI a b c d x y ∧
                                  (!Go.Sx.fLt Go.FloatKind.f64 (Go.Sx.ofI Go.FloatKind.f64 p)
                                                (Go.Sx.ofI Go.FloatKind.f64 a) &&
                                            !Go.Sx.fGt Go.FloatKind.f64 (Go.Sx.ofI Go.FloatKind.f64 r)
                                                (Go.Sx.ofI Go.FloatKind.f64 c) &&
                                          !Go.Sx.fLt Go.FloatKind.f64 (Go.Sx.ofI Go.FloatKind.f64 q)
                                              (Go.Sx.ofI Go.FloatKind.f64 b) &&
                                        !Go.Sx.fGt Go.FloatKind.f64 (Go.Sx.ofI Go.FloatKind.f64 s)
                                            (Go.Sx.ofI Go.FloatKind.f64 d)) =
                                      Go.Proofs.Try.Sx.inI a b c d p q r s ∧
                                    (!Go.Sx.fGt Go.FloatKind.f64 (Go.Sx.ofI Go.FloatKind.f64 b)
                                                  (Go.Sx.ofI Go.FloatKind.f64 s) &&
                                              !Go.Sx.fLt Go.FloatKind.f64 (Go.Sx.ofI Go.FloatKind.f64 d)
                                                  (Go.Sx.ofI Go.FloatKind.f64 q) &&
                                            !Go.Sx.fGt Go.FloatKind.f64 (Go.Sx.ofI Go.FloatKind.f64 a)
                                                (Go.Sx.ofI Go.FloatKind.f64 r) &&
                                          !Go.Sx.fLt Go.FloatKind.f64 (Go.Sx.ofI Go.FloatKind.f64 c)
                                              (Go.Sx.ofI Go.FloatKind.f64 p)) =
                                        Go.Proofs.Try.Sx.meetI a b c d p q r s ∧
                                      True ∧
                                        (Go.Proofs.Try.Sx.pvalid (Go.Sx.ofI Go.FloatKind.f64 a)
                                                (Go.Sx.ofI Go.FloatKind.f64 b) &&
                                              Go.Proofs.Try.Sx.pvalid (Go.Sx.ofI Go.FloatKind.f64 c)
                                                (Go.Sx.ofI Go.FloatKind.f64 d)) =
                                            (Go.Proofs.Try.Sx.vld a b && Go.Proofs.Try.Sx.vld c d) ∧
                                          True ∧
                                            True ∧
                                              Go.Sx.fop Go.BinOp.mul Go.FloatKind.f64
                                                    (Go.Sx.fop Go.BinOp.sub Go.FloatKind.f64
                                                      (Go.Sx.ofI Go.FloatKind.f64 c) (Go.Sx.ofI Go.FloatKind.f64 a))
                                                    (Go.Sx.fop Go.BinOp.sub Go.FloatKind.f64
                                                      (Go.Sx.ofI Go.FloatKind.f64 d) (Go.Sx.ofI Go.FloatKind.f64 b)) =
                                                  Go.Proofs.Try.Sx.area a b c d ∧
                                                (0 : Int) = (0 : Int) ∧ (0 : Int) = (0 : Int) ∧ True ∧ True ∧ True) ∧
                          True) ∧
    ∀ (j : Nat),
      True →
        ((Go.Sx.fok Go.BinOp.add Go.FloatKind.f64 (Go.Sx.ofI Go.FloatKind.f64 c) (Go.Sx.ofI Go.FloatKind.f64 a) ∧
              Go.Sx.fok Go.BinOp.add Go.FloatKind.f64 (Go.Sx.ofI Go.FloatKind.f64 d) (Go.Sx.ofI Go.FloatKind.f64 b) ∧
                Go.Proofs.Try.Sx.fdok
                    (Go.Sx.fop Go.BinOp.add Go.FloatKind.f64 (Go.Sx.ofI Go.FloatKind.f64 c)
                      (Go.Sx.ofI Go.FloatKind.f64 a))
                    (4611686018427387904 : Nat) ∧
                  Go.Proofs.Try.Sx.fdok
                    (Go.Sx.fop Go.BinOp.add Go.FloatKind.f64 (Go.Sx.ofI Go.FloatKind.f64 d)
                      (Go.Sx.ofI Go.FloatKind.f64 b))
                    (4611686018427387904 : Nat)) ∧
            ∃ (j : Nat),
              True ∧
                ((True ∧ (0 : Nat) = (0 : Nat)) ∧
                    (True ∧ (0 : Nat) = (0 : Nat)) ∧
                      (True ∧ (0 : Nat) = (0 : Nat)) ∧ (True ∧ (0 : Nat) = (0 : Nat)) ∧ True) ∧
                  True ∧
                    ((41 : Nat) = (41 : Nat) ∧
                        (0 : Nat) = (0 : Nat) ∧
                          True ∧
                            True ∧
                              True ∧
                                True ∧
                                  True ∧
                                    True ∧
                                      True ∧
                                        True ∧
                                          (0 : Nat) = (0 : Nat) ∧
                                            (0 : Int) = (0 : Int) ∧ (0 : Int) = (0 : Int) ∧ True ∧ True ∧ True) ∧
                      True ∧
                        ((68 : Nat) = (68 : Nat) ∧
                            (0 : Nat) = (0 : Nat) ∧
                              Go.Sx.ofI Go.FloatKind.f64 a = Go.Sx.ofI Go.FloatKind.f64 a ∧
                                Go.Sx.ofI Go.FloatKind.f64 b = Go.Sx.ofI Go.FloatKind.f64 b ∧
                                  Go.Sx.ofI Go.FloatKind.f64 c = Go.Sx.ofI Go.FloatKind.f64 c ∧
                                    Go.Sx.ofI Go.FloatKind.f64 d = Go.Sx.ofI Go.FloatKind.f64 d ∧ True) ∧
                          True ∧
                            ((41 : Nat) = (41 : Nat) ∧
                                (0 : Nat) = (0 : Nat) ∧
                                  Go.Proofs.Try.Sx.hasI a b c d x y = Go.Proofs.Try.Sx.hasI a b c d x y ∧
                                    Go.Proofs.Try.Sx.hasI a b c d x y = Go.Proofs.Try.Sx.hasI a b c d x y ∧
                                      Go.Proofs.Try.Sx.inI a b c d p q r s = Go.Proofs.Try.Sx.inI a b c d p q r s ∧
                                        Go.Proofs.Try.Sx.meetI a b c d p q r s = Go.Proofs.Try.Sx.meetI a b c d p q r s ∧
                                          True ∧
                                            (Go.Proofs.Try.Sx.vld a b && Go.Proofs.Try.Sx.vld c d) =
                                                (Go.Proofs.Try.Sx.vld a b && Go.Proofs.Try.Sx.vld c d) ∧
                                              True ∧
                                                True ∧
                                                  Go.Proofs.Try.Sx.area a b c d = Go.Proofs.Try.Sx.area a b c d ∧
                                                    (0 : Int) = (0 : Int) ∧ (0 : Int) = (0 : Int) ∧ True ∧ True ∧ True) ∧
                              True ∧
                                ((61 : Nat) = (61 : Nat) ∧
                                    (0 : Nat) = (0 : Nat) ∧
                                      Go.Proofs.Try.Sx.fdiv
                                            (Go.Sx.fop Go.BinOp.add Go.FloatKind.f64 (Go.Sx.ofI Go.FloatKind.f64 c)
                                              (Go.Sx.ofI Go.FloatKind.f64 a))
                                            (4611686018427387904 : Nat) =
                                          Go.Proofs.Try.Sx.center a c ∧
                                        Go.Proofs.Try.Sx.fdiv
                                              (Go.Sx.fop Go.BinOp.add Go.FloatKind.f64 (Go.Sx.ofI Go.FloatKind.f64 d)
                                                (Go.Sx.ofI Go.FloatKind.f64 b))
                                              (4611686018427387904 : Nat) =
                                            Go.Proofs.Try.Sx.center b d ∧
                                          True) ∧
                                  True) ∧
          ∀ (j : Nat),
            True →
              (Go.Sx.fok Go.BinOp.mul Go.FloatKind.f64 (4611686018427387904 : Nat) (Go.Proofs.Try.Sx.center a c) ∧
                  Go.Sx.toIok Go.FloatKind.f64
                      (Go.Sx.fop Go.BinOp.mul Go.FloatKind.f64 (4611686018427387904 : Nat) (Go.Proofs.Try.Sx.center a c))
                      Go.IntKind.i64 ∧
                    Go.Sx.fok Go.BinOp.mul Go.FloatKind.f64 (4611686018427387904 : Nat) (Go.Proofs.Try.Sx.center b d) ∧
                      Go.Sx.toIok Go.FloatKind.f64
                          (Go.Sx.fop Go.BinOp.mul Go.FloatKind.f64 (4611686018427387904 : Nat)
                            (Go.Proofs.Try.Sx.center b d))
                          Go.IntKind.i64 ∧
                        ∃ (j : Nat),
                          True ∧
                            ((True ∧ (0 : Nat) = (0 : Nat)) ∧
                                (True ∧ (0 : Nat) = (0 : Nat)) ∧ (True ∧ (0 : Nat) = (0 : Nat)) ∧ True) ∧
                              True ∧
                                ((41 : Nat) = (41 : Nat) ∧
                                    (0 : Nat) = (0 : Nat) ∧
                                      True ∧
                                        True ∧
                                          True ∧
                                            True ∧
                                              True ∧
                                                True ∧
                                                  True ∧
                                                    True ∧
                                                      (0 : Nat) = (0 : Nat) ∧
                                                        (0 : Int) = (0 : Int) ∧
                                                          (0 : Int) = (0 : Int) ∧ True ∧ True ∧ True) ∧
                                  True ∧
                                    ((68 : Nat) = (68 : Nat) ∧
                                        (0 : Nat) = (0 : Nat) ∧
                                          Go.Sx.ofI Go.FloatKind.f64 a = Go.Sx.ofI Go.FloatKind.f64 a ∧
                                            Go.Sx.ofI Go.FloatKind.f64 b = Go.Sx.ofI Go.FloatKind.f64 b ∧
                                              Go.Sx.ofI Go.FloatKind.f64 c = Go.Sx.ofI Go.FloatKind.f64 c ∧
                                                Go.Sx.ofI Go.FloatKind.f64 d = Go.Sx.ofI Go.FloatKind.f64 d ∧ True) ∧
                                      True ∧
                                        ((41 : Nat) = (41 : Nat) ∧
                                            (0 : Nat) = (0 : Nat) ∧
                                              Go.Proofs.Try.Sx.hasI a b c d x y = Go.Proofs.Try.Sx.hasI a b c d x y ∧
                                                Go.Proofs.Try.Sx.hasI a b c d x y = Go.Proofs.Try.Sx.hasI a b c d x y ∧
                                                  Go.Proofs.Try.Sx.inI a b c d p q r s =
                                                      Go.Proofs.Try.Sx.inI a b c d p q r s ∧
                                                    Go.Proofs.Try.Sx.meetI a b c d p q r s =
                                                        Go.Proofs.Try.Sx.meetI a b c d p q r s ∧
                                                      True ∧
                                                        (Go.Proofs.Try.Sx.vld a b && Go.Proofs.Try.Sx.vld c d) =
                                                            (Go.Proofs.Try.Sx.vld a b && Go.Proofs.Try.Sx.vld c d) ∧
                                                          True ∧
                                                            True ∧
                                                              Go.Proofs.Try.Sx.area a b c d =
                                                                  Go.Proofs.Try.Sx.area a b c d ∧
                                                                Go.Sx.toI Go.FloatKind.f64
                                                                      (Go.Sx.fop Go.BinOp.mul Go.FloatKind.f64
                                                                        (4611686018427387904 : Nat)
                                                                        (Go.Proofs.Try.Sx.center a c))
                                                                      Go.IntKind.i64 =
                                                                    a + c ∧
                                                                  Go.Sx.toI Go.FloatKind.f64
                                                                        (Go.Sx.fop Go.BinOp.mul Go.FloatKind.f64
                                                                          (4611686018427387904 : Nat)
                                                                          (Go.Proofs.Try.Sx.center b d))
                                                                        Go.IntKind.i64 =
                                                                      b + d ∧
                                                                    True ∧ True ∧ True) ∧
                                          True) ∧
                ∀ (j : Nat),
                  True →
                    ((∃ (i : Nat),
                          i ≤ (5 : Nat) ∧
                            ((True ∧ (0 : Nat) = (0 : Nat)) ∧
                                (True ∧ (0 : Nat) = (0 : Nat)) ∧
                                  (True ∧ (0 : Nat) = (0 : Nat)) ∧ (0 : Int) = (↑i : Int) ∧ True) ∧
                              True ∧
                                ((41 : Nat) = (41 : Nat) ∧
                                    (0 : Nat) = (0 : Nat) ∧
                                      True ∧
                                        True ∧
                                          True ∧
                                            True ∧
                                              True ∧
                                                True ∧
                                                  True ∧
                                                    True ∧
                                                      (0 : Nat) = (0 : Nat) ∧
                                                        (0 : Int) = (0 : Int) ∧
                                                          (0 : Int) = (0 : Int) ∧ True ∧ True ∧ True) ∧
                                  True ∧
                                    ((68 : Nat) = (68 : Nat) ∧
                                        (0 : Nat) = (0 : Nat) ∧
                                          Go.Sx.ofI Go.FloatKind.f64 a = Go.Sx.ofI Go.FloatKind.f64 a ∧
                                            Go.Sx.ofI Go.FloatKind.f64 b = Go.Sx.ofI Go.FloatKind.f64 b ∧
                                              Go.Sx.ofI Go.FloatKind.f64 c = Go.Sx.ofI Go.FloatKind.f64 c ∧
                                                Go.Sx.ofI Go.FloatKind.f64 d = Go.Sx.ofI Go.FloatKind.f64 d ∧ True) ∧
                                      True ∧
                                        ((41 : Nat) = (41 : Nat) ∧
                                            (0 : Nat) = (0 : Nat) ∧
                                              Go.Proofs.Try.Sx.hasI a b c d x y = Go.Proofs.Try.Sx.hasI a b c d x y ∧
                                                Go.Proofs.Try.Sx.hasI a b c d x y = Go.Proofs.Try.Sx.hasI a b c d x y ∧
                                                  Go.Proofs.Try.Sx.inI a b c d p q r s =
                                                      Go.Proofs.Try.Sx.inI a b c d p q r s ∧
                                                    Go.Proofs.Try.Sx.meetI a b c d p q r s =
                                                        Go.Proofs.Try.Sx.meetI a b c d p q r s ∧
                                                      True ∧
                                                        (Go.Proofs.Try.Sx.vld a b && Go.Proofs.Try.Sx.vld c d) =
                                                            (Go.Proofs.Try.Sx.vld a b && Go.Proofs.Try.Sx.vld c d) ∧
                                                          True ∧
                                                            True ∧
                                                              Go.Proofs.Try.Sx.area a b c d =
                                                                  Go.Proofs.Try.Sx.area a b c d ∧
                                                                a + c = a + c ∧
                                                                  b + d = b + d ∧ i = (0 : Nat) ∧ True ∧ True) ∧
                                          True ∧ (2 : Nat) * i = (0 : Nat) ∧ True) ∧
                        ∀ (i : Nat),
                          i ≤ (5 : Nat) →
                            (Decidable.decide ((↑i : Int) < (5 : Int)) = Bool.true →
                                ((0 : Int) ≤ (↑i : Int) ∧ (↑i : Int) ≤ (4 : Int)) ∧
                                  (Go.Sx.toIok Go.FloatKind.f64
                                        (Prod.fst
                                          (Go.Proofs.Try.Sx.ptAt (Go.Sx.ofI Go.FloatKind.f64 a)
                                            (Go.Sx.ofI Go.FloatKind.f64 b) (Go.Sx.ofI Go.FloatKind.f64 c)
                                            (Go.Sx.ofI Go.FloatKind.f64 d) (↑i : Int)))
                                        Go.IntKind.i64 ∧
                                      Go.Sx.toIok Go.FloatKind.f64
                                        (Prod.snd
                                          (Go.Proofs.Try.Sx.ptAt (Go.Sx.ofI Go.FloatKind.f64 a)
                                            (Go.Sx.ofI Go.FloatKind.f64 b) (Go.Sx.ofI Go.FloatKind.f64 c)
                                            (Go.Sx.ofI Go.FloatKind.f64 d) (↑i : Int)))
                                        Go.IntKind.i64) ∧
                                    ((2 : Nat) * i = i * (2 : Nat) ∧
                                        (i + (1 : Nat)) * (16 : Nat) ≤ (140737488355328 : Nat) ∧
                                          i + (1 : Nat) ≤ (9223372036854775807 : Nat)) ∧
                                      Bool.true = Bool.true ∧
                                        ∃ (i' : Nat),
                                          i' ≤ (5 : Nat) ∧
                                            (5 : Nat) - i' < (5 : Nat) - i ∧
                                              ((True ∧ (0 : Nat) = (0 : Nat)) ∧
                                                  (True ∧ (0 : Nat) = (0 : Nat)) ∧
                                                    (True ∧ (0 : Nat) = (0 : Nat)) ∧
                                                      Go.IntKind.wrap Go.IntKind.i64 ((↑i : Int) + (1 : Int)) =
                                                          (↑i' : Int) ∧
                                                        True) ∧
                                                True ∧
                                                  ((41 : Nat) = (41 : Nat) ∧
                                                      (0 : Nat) = (0 : Nat) ∧
                                                        True ∧
                                                          True ∧
                                                            True ∧
                                                              True ∧
                                                                True ∧
                                                                  True ∧
                                                                    True ∧
                                                                      True ∧
                                                                        (0 : Nat) = (0 : Nat) ∧
                                                                          (0 : Int) = (0 : Int) ∧
                                                                            (0 : Int) = (0 : Int) ∧ True ∧ True ∧ True) ∧
                                                    True ∧
                                                      ((68 : Nat) = (68 : Nat) ∧
                                                          (0 : Nat) = (0 : Nat) ∧
                                                            Go.Sx.ofI Go.FloatKind.f64 a = Go.Sx.ofI Go.FloatKind.f64 a ∧
                                                              Go.Sx.ofI Go.FloatKind.f64 b =
                                                                  Go.Sx.ofI Go.FloatKind.f64 b ∧
                                                                Go.Sx.ofI Go.FloatKind.f64 c =
                                                                    Go.Sx.ofI Go.FloatKind.f64 c ∧
                                                                  Go.Sx.ofI Go.FloatKind.f64 d =
                                                                      Go.Sx.ofI Go.FloatKind.f64 d ∧
                                                                    True) ∧
                                                        True ∧
                                                          ((41 : Nat) = (41 : Nat) ∧
                                                              (0 : Nat) = (0 : Nat) ∧
                                                                Go.Proofs.Try.Sx.hasI a b c d x y =
                                                                    Go.Proofs.Try.Sx.hasI a b c d x y ∧
                                                                  Go.Proofs.Try.Sx.hasI a b c d x y =
                                                                      Go.Proofs.Try.Sx.hasI a b c d x y ∧
                                                                    Go.Proofs.Try.Sx.inI a b c d p q r s =
                                                                        Go.Proofs.Try.Sx.inI a b c d p q r s ∧
                                                                      Go.Proofs.Try.Sx.meetI a b c d p q r s =
                                                                          Go.Proofs.Try.Sx.meetI a b c d p q r s ∧
                                                                        True ∧
                                                                          (Go.Proofs.Try.Sx.vld a b &&
                                                                                Go.Proofs.Try.Sx.vld c d) =
                                                                              (Go.Proofs.Try.Sx.vld a b &&
                                                                                Go.Proofs.Try.Sx.vld c d) ∧
                                                                            True ∧
                                                                              True ∧
                                                                                Go.Proofs.Try.Sx.area a b c d =
                                                                                    Go.Proofs.Try.Sx.area a b c d ∧
                                                                                  a + c = a + c ∧
                                                                                    b + d = b + d ∧
                                                                                      (True ∧ i + (1 : Nat) = i') ∧
                                                                                        True ∧ True) ∧
                                                            True ∧
                                                              ((23 : Nat) = (23 : Nat) ∧
                                                                  (2 : Nat) = (2 : Nat) ∧
                                                                    (2 : Nat) * i' ≤
                                                                        (2 : Nat) * i +
                                                                          List.length
                                                                            [Go.Sx.toI Go.FloatKind.f64
                                                                                (Prod.fst
                                                                                  (Go.Proofs.Try.Sx.ptAt
                                                                                    (Go.Sx.ofI Go.FloatKind.f64 a)
                                                                                    (Go.Sx.ofI Go.FloatKind.f64 b)
                                                                                    (Go.Sx.ofI Go.FloatKind.f64 c)
                                                                                    (Go.Sx.ofI Go.FloatKind.f64 d)
                                                                                    (↑i : Int)))
                                                                                Go.IntKind.i64,
                                                                              Go.Sx.toI Go.FloatKind.f64
                                                                                (Prod.snd
                                                                                  (Go.Proofs.Try.Sx.ptAt
                                                                                    (Go.Sx.ofI Go.FloatKind.f64 a)
                                                                                    (Go.Sx.ofI Go.FloatKind.f64 b)
                                                                                    (Go.Sx.ofI Go.FloatKind.f64 c)
                                                                                    (Go.Sx.ofI Go.FloatKind.f64 d)
                                                                                    (↑i : Int)))
                                                                                Go.IntKind.i64] ∧
                                                                      ∀ (i_1 : Nat),
                                                                        i_1 < (2 : Nat) * i' →
                                                                          Go.Sx.more ((2 : Nat) * i)
                                                                              (Go.Proofs.Try.Sx.pts5 a b c d)
                                                                              [Go.Sx.toI Go.FloatKind.f64
                                                                                  (Prod.fst
                                                                                    (Go.Proofs.Try.Sx.ptAt
                                                                                      (Go.Sx.ofI Go.FloatKind.f64 a)
                                                                                      (Go.Sx.ofI Go.FloatKind.f64 b)
                                                                                      (Go.Sx.ofI Go.FloatKind.f64 c)
                                                                                      (Go.Sx.ofI Go.FloatKind.f64 d)
                                                                                      (↑i : Int)))
                                                                                  Go.IntKind.i64,
                                                                                Go.Sx.toI Go.FloatKind.f64
                                                                                  (Prod.snd
                                                                                    (Go.Proofs.Try.Sx.ptAt
                                                                                      (Go.Sx.ofI Go.FloatKind.f64 a)
                                                                                      (Go.Sx.ofI Go.FloatKind.f64 b)
                                                                                      (Go.Sx.ofI Go.FloatKind.f64 c)
                                                                                      (Go.Sx.ofI Go.FloatKind.f64 d)
                                                                                      (↑i : Int)))
                                                                                  Go.IntKind.i64]
                                                                              (0 : Int) i_1 =
                                                                            Go.Proofs.Try.Sx.pts5 a b c d i_1) ∧
                                                                True) ∧
                              (Decidable.decide ((↑i : Int) < (5 : Int)) = Bool.false →
                                ∃ (j : Nat),
                                  True ∧
                                    ((True ∧ (0 : Nat) = (0 : Nat)) ∧
                                        (True ∧ (0 : Nat) = (0 : Nat)) ∧ (True ∧ (0 : Nat) = (0 : Nat)) ∧ True) ∧
                                      True ∧
                                        ((41 : Nat) = (41 : Nat) ∧
                                            (0 : Nat) = (0 : Nat) ∧
                                              True ∧
                                                True ∧
                                                  True ∧
                                                    True ∧
                                                      True ∧
                                                        True ∧
                                                          True ∧
                                                            True ∧
                                                              (0 : Nat) = (0 : Nat) ∧
                                                                (0 : Int) = (0 : Int) ∧
                                                                  (0 : Int) = (0 : Int) ∧ True ∧ True ∧ True) ∧
                                          True ∧
                                            ((68 : Nat) = (68 : Nat) ∧
                                                (0 : Nat) = (0 : Nat) ∧
                                                  Go.Sx.ofI Go.FloatKind.f64 a = Go.Sx.ofI Go.FloatKind.f64 a ∧
                                                    Go.Sx.ofI Go.FloatKind.f64 b = Go.Sx.ofI Go.FloatKind.f64 b ∧
                                                      Go.Sx.ofI Go.FloatKind.f64 c = Go.Sx.ofI Go.FloatKind.f64 c ∧
                                                        Go.Sx.ofI Go.FloatKind.f64 d = Go.Sx.ofI Go.FloatKind.f64 d ∧
                                                          True) ∧
                                              True ∧
                                                ((41 : Nat) = (41 : Nat) ∧
                                                    (0 : Nat) = (0 : Nat) ∧
                                                      Go.Proofs.Try.Sx.hasI a b c d x y =
                                                          Go.Proofs.Try.Sx.hasI a b c d x y ∧
                                                        Go.Proofs.Try.Sx.hasI a b c d x y =
                                                            Go.Proofs.Try.Sx.hasI a b c d x y ∧
                                                          Go.Proofs.Try.Sx.inI a b c d p q r s =
                                                              Go.Proofs.Try.Sx.inI a b c d p q r s ∧
                                                            Go.Proofs.Try.Sx.meetI a b c d p q r s =
                                                                Go.Proofs.Try.Sx.meetI a b c d p q r s ∧
                                                              True ∧
                                                                (Go.Proofs.Try.Sx.vld a b && Go.Proofs.Try.Sx.vld c d) =
                                                                    (Go.Proofs.Try.Sx.vld a b &&
                                                                      Go.Proofs.Try.Sx.vld c d) ∧
                                                                  True ∧
                                                                    True ∧
                                                                      Go.Proofs.Try.Sx.area a b c d =
                                                                          Go.Proofs.Try.Sx.area a b c d ∧
                                                                        a + c = a + c ∧
                                                                          b + d = b + d ∧
                                                                            (True ∧ i = (5 : Nat)) ∧ True ∧ True) ∧
                                                  True ∧
                                                    ((23 : Nat) = (23 : Nat) ∧
                                                        (2 : Nat) = (2 : Nat) ∧
                                                          (10 : Nat) ≤ (2 : Nat) * i ∧
                                                            ∀ (i : Nat),
                                                              i < (10 : Nat) →
                                                                Go.Proofs.Try.Sx.pts5 a b c d i =
                                                                  Go.Proofs.Try.Sx.pts5 a b c d i) ∧
                                                      True)) ∧
                      ∀ (j : Nat),
                        True →
                          (∃ (i : Nat),
                              i ≤ (4 : Nat) ∧
                                ((True ∧ (0 : Nat) = (0 : Nat)) ∧
                                    (True ∧ (0 : Nat) = (0 : Nat)) ∧
                                      (True ∧ (0 : Nat) = (0 : Nat)) ∧ (0 : Int) = (↑i : Int) ∧ True) ∧
                                  True ∧
                                    ((41 : Nat) = (41 : Nat) ∧
                                        (0 : Nat) = (0 : Nat) ∧
                                          True ∧
                                            True ∧
                                              True ∧
                                                True ∧
                                                  True ∧
                                                    True ∧
                                                      True ∧
                                                        True ∧
                                                          (0 : Nat) = (0 : Nat) ∧
                                                            (0 : Int) = (0 : Int) ∧
                                                              (0 : Int) = (0 : Int) ∧ True ∧ True ∧ True) ∧
                                      True ∧
                                        ((68 : Nat) = (68 : Nat) ∧
                                            (0 : Nat) = (0 : Nat) ∧
                                              Go.Sx.ofI Go.FloatKind.f64 a = Go.Sx.ofI Go.FloatKind.f64 a ∧
                                                Go.Sx.ofI Go.FloatKind.f64 b = Go.Sx.ofI Go.FloatKind.f64 b ∧
                                                  Go.Sx.ofI Go.FloatKind.f64 c = Go.Sx.ofI Go.FloatKind.f64 c ∧
                                                    Go.Sx.ofI Go.FloatKind.f64 d = Go.Sx.ofI Go.FloatKind.f64 d ∧ True) ∧
                                          True ∧
                                            ((41 : Nat) = (41 : Nat) ∧
                                                (0 : Nat) = (0 : Nat) ∧
                                                  Go.Proofs.Try.Sx.hasI a b c d x y = Go.Proofs.Try.Sx.hasI a b c d x y ∧
                                                    Go.Proofs.Try.Sx.hasI a b c d x y =
                                                        Go.Proofs.Try.Sx.hasI a b c d x y ∧
                                                      Go.Proofs.Try.Sx.inI a b c d p q r s =
                                                          Go.Proofs.Try.Sx.inI a b c d p q r s ∧
                                                        Go.Proofs.Try.Sx.meetI a b c d p q r s =
                                                            Go.Proofs.Try.Sx.meetI a b c d p q r s ∧
                                                          True ∧
                                                            (Go.Proofs.Try.Sx.vld a b && Go.Proofs.Try.Sx.vld c d) =
                                                                (Go.Proofs.Try.Sx.vld a b && Go.Proofs.Try.Sx.vld c d) ∧
                                                              True ∧
                                                                True ∧
                                                                  Go.Proofs.Try.Sx.area a b c d =
                                                                      Go.Proofs.Try.Sx.area a b c d ∧
                                                                    a + c = a + c ∧
                                                                      b + d = b + d ∧
                                                                        (True ∧ (5 : Nat) = (5 : Nat)) ∧
                                                                          i = (0 : Nat) ∧ True) ∧
                                              True ∧
                                                ((23 : Nat) = (23 : Nat) ∧
                                                    (2 : Nat) = (2 : Nat) ∧
                                                      (10 : Nat) ≤ (10 : Nat) ∧
                                                        ∀ (i : Nat),
                                                          i < (10 : Nat) →
                                                            Go.Proofs.Try.Sx.pts5 a b c d i =
                                                              Go.Proofs.Try.Sx.pts5 a b c d i) ∧
                                                  True ∧ (4 : Nat) * i = (0 : Nat) ∧ True) ∧
                            ∀ (i : Nat),
                              i ≤ (4 : Nat) →
                                (Decidable.decide ((↑i : Int) < (4 : Int)) = Bool.true →
                                    ((0 : Int) ≤ (↑i : Int) ∧ (↑i : Int) ≤ (3 : Int)) ∧
                                      (Go.Sx.toIok Go.FloatKind.f64
                                            (Prod.fst
                                              (Go.Proofs.Try.Sx.ptAt (Go.Sx.ofI Go.FloatKind.f64 a)
                                                (Go.Sx.ofI Go.FloatKind.f64 b) (Go.Sx.ofI Go.FloatKind.f64 c)
                                                (Go.Sx.ofI Go.FloatKind.f64 d) (↑i : Int)))
                                            Go.IntKind.i64 ∧
                                          Go.Sx.toIok Go.FloatKind.f64
                                            (Prod.snd
                                              (Go.Proofs.Try.Sx.ptAt (Go.Sx.ofI Go.FloatKind.f64 a)
                                                (Go.Sx.ofI Go.FloatKind.f64 b) (Go.Sx.ofI Go.FloatKind.f64 c)
                                                (Go.Sx.ofI Go.FloatKind.f64 d) (↑i : Int)))
                                            Go.IntKind.i64) ∧
                                        (Go.Sx.toIok Go.FloatKind.f64
                                              (Prod.fst
                                                (Go.Proofs.Try.Sx.ptAt (Go.Sx.ofI Go.FloatKind.f64 a)
                                                  (Go.Sx.ofI Go.FloatKind.f64 b) (Go.Sx.ofI Go.FloatKind.f64 c)
                                                  (Go.Sx.ofI Go.FloatKind.f64 d) ((↑i : Int) + (1 : Int))))
                                              Go.IntKind.i64 ∧
                                            Go.Sx.toIok Go.FloatKind.f64
                                              (Prod.snd
                                                (Go.Proofs.Try.Sx.ptAt (Go.Sx.ofI Go.FloatKind.f64 a)
                                                  (Go.Sx.ofI Go.FloatKind.f64 b) (Go.Sx.ofI Go.FloatKind.f64 c)
                                                  (Go.Sx.ofI Go.FloatKind.f64 d) ((↑i : Int) + (1 : Int))))
                                              Go.IntKind.i64) ∧
                                          ((4 : Nat) * i = i * (4 : Nat) ∧
                                              (i + (1 : Nat)) * (32 : Nat) ≤ (140737488355328 : Nat) ∧
                                                i + (1 : Nat) ≤ (9223372036854775807 : Nat)) ∧
                                            Bool.true = Bool.true ∧
                                              ∃ (i' : Nat),
                                                i' ≤ (4 : Nat) ∧
                                                  (4 : Nat) - i' < (4 : Nat) - i ∧
                                                    ((True ∧ (0 : Nat) = (0 : Nat)) ∧
                                                        (True ∧ (0 : Nat) = (0 : Nat)) ∧
                                                          (True ∧ (0 : Nat) = (0 : Nat)) ∧
                                                            Go.IntKind.wrap Go.IntKind.i64 ((↑i : Int) + (1 : Int)) =
                                                                (↑i' : Int) ∧
                                                              True) ∧
                                                      True ∧
                                                        ((41 : Nat) = (41 : Nat) ∧
                                                            (0 : Nat) = (0 : Nat) ∧
                                                              True ∧
                                                                True ∧
                                                                  True ∧
                                                                    True ∧
                                                                      True ∧
                                                                        True ∧
                                                                          True ∧
                                                                            True ∧
                                                                              (0 : Nat) = (0 : Nat) ∧
                                                                                (0 : Int) = (0 : Int) ∧
                                                                                  (0 : Int) = (0 : Int) ∧
                                                                                    True ∧ True ∧ True) ∧
                                                          True ∧
                                                            ((68 : Nat) = (68 : Nat) ∧
                                                                (0 : Nat) = (0 : Nat) ∧
                                                                  Go.Sx.ofI Go.FloatKind.f64 a =
                                                                      Go.Sx.ofI Go.FloatKind.f64 a ∧
                                                                    Go.Sx.ofI Go.FloatKind.f64 b =
                                                                        Go.Sx.ofI Go.FloatKind.f64 b ∧
                                                                      Go.Sx.ofI Go.FloatKind.f64 c =
                                                                          Go.Sx.ofI Go.FloatKind.f64 c ∧
                                                                        Go.Sx.ofI Go.FloatKind.f64 d =
                                                                            Go.Sx.ofI Go.FloatKind.f64 d ∧
                                                                          True) ∧
                                                              True ∧
                                                                ((41 : Nat) = (41 : Nat) ∧
                                                                    (0 : Nat) = (0 : Nat) ∧
                                                                      Go.Proofs.Try.Sx.hasI a b c d x y =
                                                                          Go.Proofs.Try.Sx.hasI a b c d x y ∧
                                                                        Go.Proofs.Try.Sx.hasI a b c d x y =
                                                                            Go.Proofs.Try.Sx.hasI a b c d x y ∧
                                                                          Go.Proofs.Try.Sx.inI a b c d p q r s =
                                                                              Go.Proofs.Try.Sx.inI a b c d p q r s ∧
                                                                            Go.Proofs.Try.Sx.meetI a b c d p q r s =
                                                                                Go.Proofs.Try.Sx.meetI a b c d p q r s ∧
                                                                              True ∧
                                                                                (Go.Proofs.Try.Sx.vld a b &&
                                                                                      Go.Proofs.Try.Sx.vld c d) =
                                                                                    (Go.Proofs.Try.Sx.vld a b &&
                                                                                      Go.Proofs.Try.Sx.vld c d) ∧
                                                                                  True ∧
                                                                                    True ∧
                                                                                      Go.Proofs.Try.Sx.area a b c d =
                                                                                          Go.Proofs.Try.Sx.area a b c d ∧
                                                                                        a + c = a + c ∧
                                                                                          b + d = b + d ∧
                                                                                            (True ∧
                                                                                                (5 : Nat) = (5 : Nat)) ∧
                                                                                              (True ∧
                                                                                                  i + (1 : Nat) = i') ∧
                                                                                                True) ∧
                                                                  True ∧
                                                                    ((23 : Nat) = (23 : Nat) ∧
                                                                        (2 : Nat) = (2 : Nat) ∧
                                                                          (10 : Nat) ≤ (10 : Nat) ∧
                                                                            ∀ (i : Nat),
                                                                              i < (10 : Nat) →
                                                                                Go.Proofs.Try.Sx.pts5 a b c d i =
                                                                                  Go.Proofs.Try.Sx.pts5 a b c d i) ∧
                                                                      True ∧
                                                                        ((33 : Nat) = (33 : Nat) ∧
                                                                            (4 : Nat) = (4 : Nat) ∧
                                                                              (4 : Nat) * i' ≤
                                                                                  (4 : Nat) * i +
                                                                                    List.length
                                                                                      [Go.Sx.toI Go.FloatKind.f64
                                                                                          (Prod.fst
                                                                                            (Go.Proofs.Try.Sx.ptAt
                                                                                              (Go.Sx.ofI Go.FloatKind.f64
                                                                                                a)
                                                                                              (Go.Sx.ofI Go.FloatKind.f64
                                                                                                b)
                                                                                              (Go.Sx.ofI Go.FloatKind.f64
                                                                                                c)
                                                                                              (Go.Sx.ofI Go.FloatKind.f64
                                                                                                d)
                                                                                              (↑i : Int)))
                                                                                          Go.IntKind.i64,
                                                                                        Go.Sx.toI Go.FloatKind.f64
                                                                                          (Prod.snd
                                                                                            (Go.Proofs.Try.Sx.ptAt
                                                                                              (Go.Sx.ofI Go.FloatKind.f64
                                                                                                a)
                                                                                              (Go.Sx.ofI Go.FloatKind.f64
                                                                                                b)
                                                                                              (Go.Sx.ofI Go.FloatKind.f64
                                                                                                c)
                                                                                              (Go.Sx.ofI Go.FloatKind.f64
                                                                                                d)
                                                                                              (↑i : Int)))
                                                                                          Go.IntKind.i64,
                                                                                        Go.Sx.toI Go.FloatKind.f64
                                                                                          (Prod.fst
                                                                                            (Go.Proofs.Try.Sx.ptAt
                                                                                              (Go.Sx.ofI Go.FloatKind.f64
                                                                                                a)
                                                                                              (Go.Sx.ofI Go.FloatKind.f64
                                                                                                b)
                                                                                              (Go.Sx.ofI Go.FloatKind.f64
                                                                                                c)
                                                                                              (Go.Sx.ofI Go.FloatKind.f64
                                                                                                d)
                                                                                              ((↑i : Int) + (1 : Int))))
                                                                                          Go.IntKind.i64,
                                                                                        Go.Sx.toI Go.FloatKind.f64
                                                                                          (Prod.snd
                                                                                            (Go.Proofs.Try.Sx.ptAt
                                                                                              (Go.Sx.ofI Go.FloatKind.f64
                                                                                                a)
                                                                                              (Go.Sx.ofI Go.FloatKind.f64
                                                                                                b)
                                                                                              (Go.Sx.ofI Go.FloatKind.f64
                                                                                                c)
                                                                                              (Go.Sx.ofI Go.FloatKind.f64
                                                                                                d)
                                                                                              ((↑i : Int) + (1 : Int))))
                                                                                          Go.IntKind.i64] ∧
                                                                                ∀ (i_1 : Nat),
                                                                                  i_1 < (4 : Nat) * i' →
                                                                                    Go.Sx.more ((4 : Nat) * i)
                                                                                        (Go.Proofs.Try.Sx.sgs4 a b c d)
                                                                                        [Go.Sx.toI Go.FloatKind.f64
                                                                                            (Prod.fst
                                                                                              (Go.Proofs.Try.Sx.ptAt
                                                                                                (Go.Sx.ofI
                                                                                                  Go.FloatKind.f64 a)
                                                                                                (Go.Sx.ofI
                                                                                                  Go.FloatKind.f64 b)
                                                                                                (Go.Sx.ofI
                                                                                                  Go.FloatKind.f64 c)
                                                                                                (Go.Sx.ofI
                                                                                                  Go.FloatKind.f64 d)
                                                                                                (↑i : Int)))
                                                                                            Go.IntKind.i64,
                                                                                          Go.Sx.toI Go.FloatKind.f64
                                                                                            (Prod.snd
                                                                                              (Go.Proofs.Try.Sx.ptAt
                                                                                                (Go.Sx.ofI
                                                                                                  Go.FloatKind.f64 a)
                                                                                                (Go.Sx.ofI
                                                                                                  Go.FloatKind.f64 b)
                                                                                                (Go.Sx.ofI
                                                                                                  Go.FloatKind.f64 c)
                                                                                                (Go.Sx.ofI
                                                                                                  Go.FloatKind.f64 d)
                                                                                                (↑i : Int)))
                                                                                            Go.IntKind.i64,
                                                                                          Go.Sx.toI Go.FloatKind.f64
                                                                                            (Prod.fst
                                                                                              (Go.Proofs.Try.Sx.ptAt
                                                                                                (Go.Sx.ofI
                                                                                                  Go.FloatKind.f64 a)
                                                                                                (Go.Sx.ofI
                                                                                                  Go.FloatKind.f64 b)
                                                                                                (Go.Sx.ofI
                                                                                                  Go.FloatKind.f64 c)
                                                                                                (Go.Sx.ofI
                                                                                                  Go.FloatKind.f64 d)
                                                                                                ((↑i : Int) + (1 : Int))))
                                                                                            Go.IntKind.i64,
                                                                                          Go.Sx.toI Go.FloatKind.f64
                                                                                            (Prod.snd
                                                                                              (Go.Proofs.Try.Sx.ptAt
                                                                                                (Go.Sx.ofI
                                                                                                  Go.FloatKind.f64 a)
                                                                                                (Go.Sx.ofI
                                                                                                  Go.FloatKind.f64 b)
                                                                                                (Go.Sx.ofI
                                                                                                  Go.FloatKind.f64 c)
                                                                                                (Go.Sx.ofI
                                                                                                  Go.FloatKind.f64 d)
                                                                                                ((↑i : Int) + (1 : Int))))
                                                                                            Go.IntKind.i64]
                                                                                        (0 : Int) i_1 =
                                                                                      Go.Proofs.Try.Sx.sgs4 a b c d i_1) ∧
                                                                          True) ∧
                                  (Decidable.decide ((↑i : Int) < (4 : Int)) = Bool.false →
                                    (Go.Proofs.Try.Sx.hasI a b c d x y = Go.Proofs.Try.Sx.hasI a b c d x y ∧
                                        Go.Proofs.Try.Sx.hasI a b c d x y = Go.Proofs.Try.Sx.hasI a b c d x y ∧
                                          Go.Proofs.Try.Sx.inI a b c d p q r s = Go.Proofs.Try.Sx.inI a b c d p q r s ∧
                                            Go.Proofs.Try.Sx.meetI a b c d p q r s =
                                                Go.Proofs.Try.Sx.meetI a b c d p q r s ∧
                                              True ∧
                                                (Go.Proofs.Try.Sx.vld a b && Go.Proofs.Try.Sx.vld c d) =
                                                    (Go.Proofs.Try.Sx.vld a b && Go.Proofs.Try.Sx.vld c d) ∧
                                                  True ∧
                                                    True ∧
                                                      Go.Proofs.Try.Sx.area a b c d = Go.Proofs.Try.Sx.area a b c d ∧
                                                        a + c = a + c ∧
                                                          b + d = b + d ∧
                                                            (True ∧ (5 : Nat) = (5 : Nat)) ∧
                                                              (True ∧ i = (4 : Nat)) ∧ True) ∧
                                      True ∧
                                        ((23 : Nat) = (23 : Nat) ∧
                                            (2 : Nat) = (2 : Nat) ∧
                                              (10 : Nat) ≤ (10 : Nat) ∧
                                                ∀ (i : Nat),
                                                  i < (10 : Nat) →
                                                    Go.Proofs.Try.Sx.pts5 a b c d i = Go.Proofs.Try.Sx.pts5 a b c d i) ∧
                                          True ∧
                                            ((33 : Nat) = (33 : Nat) ∧
                                                (4 : Nat) = (4 : Nat) ∧
                                                  (16 : Nat) ≤ (4 : Nat) * i ∧
                                                    ∀ (i : Nat),
                                                      i < (16 : Nat) →
                                                        Go.Proofs.Try.Sx.sgs4 a b c d i =
                                                          Go.Proofs.Try.Sx.sgs4 a b c d i) ∧
                                              True)) := by kernel_rfl
theorem rectAsk : ConOk Try.prog 14 (conR rectAskC) := by
  refine con_of_vc gRA Try.func14 rfl (by kernel_rfl) fun args => ?_
  unfold rectAskC
  split
  · rename_i a b c d p q r s x y
    intro ho
    replace ho : sm4 a b c d ∧ sm4 p q r s ∧ small x ∧ small y := ho
    refine ⟨?_, _, _, (vc_rectAsk a b c d p q r s x y).mpr ?_⟩
    · refine okFlag_mk rfl ⟨?_, trivial⟩
      simp [eqvRL, eqvR, kEq_self, fkEq_self, sgSig, fsts, nth, sameN_self]
    · obtain ⟨hsm, ⟨hp, hq, hr, hs⟩, hx, hy⟩ := ho
      obtain ⟨ha, hb, hc, hd⟩ := hsm
      obtain ⟨c1, c2, c3, c4, c5⟩ := center_of ha hc
      obtain ⟨d1, d2, d3, d4, d5⟩ := center_of hb hd
      refine ⟨⟨⟨(sub_of hc ha).1, (sub_of hd hb).1, (area_of ha hb hc hd).1⟩, rfl, 0, ?_⟩, fun _ _ => ⟨⟨⟨c1, d1, c2, d2⟩, 0, by simp [center]⟩, fun _ _ => ⟨⟨c3, c4, d3, d4, 0, by simp [c5, d5]⟩, fun _ _ => ⟨⟨⟨0, by simp⟩, fun i hi => ⟨fun h => ?_, fun h => ?_⟩⟩, fun _ _ => ⟨⟨0, by simp⟩, fun i hi => ⟨fun h => ?_, fun h => ?_⟩⟩⟩⟩⟩⟩
      · rw [has_of ha hb hc hd hx hy, in_of ha hb hc hd hp hq hr hs, meet_of ha hb hc hd hp hq hr hs, pvalid_of ha hb, pvalid_of hc hd]
        simp [area]
      · have h := of_decide_eq_true h
        obtain ⟨p1, p2, p3, p4⟩ := pt_of ⟨ha, hb, hc, hd⟩ (show i ≤ 4 by omega)
        have hw : IntKind.i64.wrap ((i : Int) + 1) = ((i + 1 : Nat) : Int) := by rw [wrap64 (by omega) (by omega)]; omega
        rw [p3, p4]
        refine ⟨by omega, ⟨p1, p2⟩, by omega, rfl, i + 1, by omega, by omega, by simp [hw], trivial, by simp, trivial, by simp, trivial, by simp, trivial, ⟨rfl, rfl, ?_, more_two rfl rfl⟩, trivial⟩
        show 2 * (i + 1) ≤ 2 * i + 2
        omega
      · have h := of_decide_eq_false h
        have : i = 5 := by omega
        subst this
        exact ⟨0, by simp⟩
      · have h := of_decide_eq_true h
        obtain ⟨p1, p2, p3, p4⟩ := pt_of ⟨ha, hb, hc, hd⟩ (show i ≤ 4 by omega)
        obtain ⟨q1, q2, q3, q4⟩ := pt_of ⟨ha, hb, hc, hd⟩ (show i + 1 ≤ 4 by omega)
        obtain ⟨s1, s2, s3, s4⟩ := sg_of (a := a) (b := b) (c := c) (d := d) (show i ≤ 3 by omega)
        have hw : IntKind.i64.wrap ((i : Int) + 1) = ((i + 1 : Nat) : Int) := by rw [wrap64 (by omega) (by omega)]; omega
        have hi1 : (i : Int) + 1 = ((i + 1 : Nat) : Int) := by omega
        rw [hw, hi1, p3, p4, q3, q4]
        refine ⟨by omega, ⟨p1, p2⟩, ⟨q1, q2⟩, by omega, rfl, i + 1, by omega, by omega, by simp, trivial, by simp, trivial, by simp, trivial, by simp, trivial, by simp, trivial, ⟨rfl, rfl, ?_, more_four s1.symm s2.symm s3.symm s4.symm⟩, trivial⟩
        show 4 * (i + 1) ≤ 4 * i + 4
        omega
      · have h := of_decide_eq_false h
        have : i = 4 := by omega
        subst this
        simp
  · trivial
end Go.Proofs.Try.Sx
