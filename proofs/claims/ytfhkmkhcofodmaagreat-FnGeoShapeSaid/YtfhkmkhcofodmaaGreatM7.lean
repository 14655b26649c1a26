/- Parts of a proof, in order: what each says stands at its head. No conditions. -/
import Derived.Test.YtfhkmkhcofodmaaGreatM6
import Derived.Test.YtfhkmkhcofodmaaGreatM5
/- Points, rectangles, options; points as floats. -/
namespace Go.Proofs.Tryz.Sx
open Go Go.Sx Go.Proofs Go.Fl Go.Geo
set_option maxRecDepth 100000

def pMoveF : PF := fun
  | [.agg [.flt .f64 x, .flt .f64 y], .flt .f64 dx, .flt .f64 dy] => some (.agg [.flt .f64 (fop .add .f64 x dx), .flt .f64 (fop .add .f64 y dy)], some (fok .add .f64 x dx ∧ fok .add .f64 y dy))
  | _ => none
theorem vc_pMove (R : SV → Prop) (x y dx dy : Nat) : runA G0 0 [] [] (codeOf Tryz.f81) (init Tryz.f81.ntmps [.agg [.flt .f64 x, .flt .f64 y], .flt .f64 dx, .flt .f64 dy] [] 0) (endK G0.E.T Tryz.f81.results.toList fun _ v => R v) = (
Go.Sx.fok BinOp.add .f64 x dx ∧ Go.Sx.fok BinOp.add .f64 y dy ∧ R (SV.agg [SV.flt .f64 (Go.Sx.fop BinOp.add .f64 x dx), SV.flt .f64 (Go.Sx.fop BinOp.add .f64 y dy)])) := by kernel_rfl
theorem pMove : PureOk Tryz.prog 81 pMoveF := by
  refine pure_of_vc g0 Tryz.func81 rfl (by kernel_rfl) ?_
  intro args v p h hp
  unfold pMoveF at h
  split at h
  · rename_i x y dx dy
    injection h with h; injection h with h1 h2; subst h1; subst h2
    have hp : fok .add .f64 x dx ∧ fok .add .f64 y dy := hp
    refine ⟨rfl, _, _, (vc_pMove _ x y dx dy).mpr ?_⟩
    exact ⟨hp.1, hp.2, rfl, rfl, trivial⟩
  · cases h
def rMoveF : PF := fun
  | [.agg [.flt .f64 a, .flt .f64 b, .flt .f64 c, .flt .f64 d], .flt .f64 dx, .flt .f64 dy] => some (.agg [.flt .f64 (fop .add .f64 a dx), .flt .f64 (fop .add .f64 b dy), .flt .f64 (fop .add .f64 c dx), .flt .f64 (fop .add .f64 d dy)], some (fok .add .f64 a dx ∧ fok .add .f64 b dy ∧ fok .add .f64 c dx ∧ fok .add .f64 d dy))
  | _ => none
theorem vc_rMove (R : SV → Prop) (a b c d dx dy : Nat) : runA G0 0 [] [] (codeOf Tryz.f82) (init Tryz.f82.ntmps [.agg [.flt .f64 a, .flt .f64 b, .flt .f64 c, .flt .f64 d], .flt .f64 dx, .flt .f64 dy] [] 0) (endK G0.E.T Tryz.f82.results.toList fun _ v => R v) = (
Go.Sx.fok BinOp.add .f64 a dx ∧ Go.Sx.fok BinOp.add .f64 b dy ∧ Go.Sx.fok BinOp.add .f64 c dx ∧ Go.Sx.fok BinOp.add .f64 d dy ∧ R (SV.agg [SV.flt .f64 (Go.Sx.fop BinOp.add .f64 a dx), SV.flt .f64 (Go.Sx.fop BinOp.add .f64 b dy), SV.flt .f64
(Go.Sx.fop BinOp.add .f64 c dx), SV.flt .f64 (Go.Sx.fop BinOp.add .f64 d dy)])) := by kernel_rfl
theorem rMove : PureOk Tryz.prog 82 rMoveF := by
  refine pure_of_vc g0 Tryz.func82 rfl (by kernel_rfl) ?_
  intro args v p h hp
  unfold rMoveF at h
  split at h
  · rename_i a b c d dx dy
    injection h with h; injection h with h1 h2; subst h1; subst h2
    have hp : fok .add .f64 a dx ∧ fok .add .f64 b dy ∧ fok .add .f64 c dx ∧ fok .add .f64 d dy := hp
    refine ⟨rfl, _, _, (vc_rMove _ a b c d dx dy).mpr ?_⟩
    simp [hp, eqv, eqvL, fkEq_self]
  · cases h
def pEmptyF : PF := fun
  | [.agg [.flt .f64 x, .flt .f64 y]] => some (.bool false, none)
  | _ => none
theorem vc_pEmpty (R : SV → Prop) (x y : Nat) : runA G0 0 [] [] (codeOf Tryz.f156) (init Tryz.f156.ntmps [.agg [.flt .f64 x, .flt .f64 y]] [] 0) (endK G0.E.T Tryz.f156.results.toList fun _ v => R v) = (
R SV.ff) := by kernel_rfl
theorem pEmpty : PureOk Tryz.prog 156 pEmptyF := by
  refine pure_of_vc g0 Tryz.func156 rfl (by kernel_rfl) ?_
  intro args v p h hp
  unfold pEmptyF at h
  split at h
  · rename_i x y
    injection h with h; injection h with h1 h2; subst h1; subst h2
    clear hp
    refine ⟨rfl, _, _, (vc_pEmpty _ x y).mpr ?_⟩
    simp [eqv, eqvL, kEq_self, fkEq_self]
  · cases h
def pRectF : PF := fun
  | [.agg [.flt .f64 x, .flt .f64 y]] => some (.agg [.flt .f64 x, .flt .f64 y, .flt .f64 x, .flt .f64 y], none)
  | _ => none
theorem vc_pRect (R : SV → Prop) (x y : Nat) : runA G0 0 [] [] (codeOf Tryz.f161) (init Tryz.f161.ntmps [.agg [.flt .f64 x, .flt .f64 y]] [] 0) (endK G0.E.T Tryz.f161.results.toList fun _ v => R v) = (
R (SV.agg [SV.flt .f64 x, SV.flt .f64 y, SV.flt .f64 x, SV.flt .f64 y])) := by kernel_rfl
theorem pRect : PureOk Tryz.prog 161 pRectF := by
  refine pure_of_vc g0 Tryz.func161 rfl (by kernel_rfl) ?_
  intro args v p h hp
  unfold pRectF at h
  split at h
  · rename_i x y
    injection h with h; injection h with h1 h2; subst h1; subst h2
    clear hp
    refine ⟨rfl, _, _, (vc_pRect _ x y).mpr ?_⟩
    simp [eqv, eqvL, kEq_self, fkEq_self]
  · cases h
def rRectF : PF := fun
  | [.agg [.flt .f64 a, .flt .f64 b, .flt .f64 c, .flt .f64 d]] => some (.agg [.flt .f64 a, .flt .f64 b, .flt .f64 c, .flt .f64 d], none)
  | _ => none
theorem vc_rRect (R : SV → Prop) (a b c d : Nat) : runA G0 0 [] [] (codeOf Tryz.f198) (init Tryz.f198.ntmps [.agg [.flt .f64 a, .flt .f64 b, .flt .f64 c, .flt .f64 d]] [] 0) (endK G0.E.T Tryz.f198.results.toList fun _ v => R v) = (
R (SV.agg [SV.flt .f64 a, SV.flt .f64 b, SV.flt .f64 c, SV.flt .f64 d])) := by kernel_rfl
theorem rRect : PureOk Tryz.prog 198 rRectF := by
  refine pure_of_vc g0 Tryz.func198 rfl (by kernel_rfl) ?_
  intro args v p h hp
  unfold rRectF at h
  split at h
  · rename_i a b c d
    injection h with h; injection h with h1 h2; subst h1; subst h2
    clear hp
    refine ⟨rfl, _, _, (vc_rRect _ a b c d).mpr ?_⟩
    simp [eqv, eqvL, kEq_self, fkEq_self]
  · cases h
noncomputable def optsC : List SV → RdM
  | [.int .i64 k, .int .i64 m] => .ret ⟨[.int .i64 k, .int .i64 m], [], .ptr 0 0, [], [(0, ⟨true, 148, .cells [.int .u8 (IntKind.u8.wrap k), .int .i64 m], 0⟩)], some (True)⟩
  | _ => .fail
theorem vc_opts (k m : Int) : runA G0 0 [] [] (codeOf Tryz.f64) (init Tryz.f64.ntmps [.int .i64 k, .int .i64 m] [] 0) (endK G0.E.T Tryz.f64.results.toList fun S v => postP 0 ⟨[.int .i64 k, .int .i64 m], [], .ptr 0 0, [], [(0, ⟨true, 148, .cells [.int .u8 (IntKind.u8.wrap k), .int .i64 m], 0⟩)], some (True)⟩ S v) = (
(True ∧ (0 : Nat) = (0 : Nat)) ∧ True ∧ ((148 : Nat) = (148 : Nat) ∧ (0 : Nat) = (0 : Nat) ∧ Go.IntKind.wrap .u8 k = Go.IntKind.wrap .u8 k ∧ m = m ∧ True) ∧ True) := by kernel_rfl
theorem opts : ConOk Tryz.prog 64 (conR optsC) := by
  refine con_of_vc g0 Tryz.func64 rfl (by kernel_rfl) fun args => ?_
  unfold optsC
  split
  · rename_i k m
    intro ho
    replace ho : True := ho
    refine ⟨?_, _, _, (vc_opts k m).mpr ?_⟩
    · refine okFlag_mk rfl ⟨?_, trivial⟩
      simp [eqvRL, eqvR, kEq_self, fkEq_self, sgSig, fsts, nth, sameN_self]
    · simp
  · trivial
def GPT : Ctx := ⟨⟨tys, []⟩, [(75, pureCon ptF)]⟩
theorem gPT : CtxOk Tryz.prog GPT := ⟨⟨tysOk, FlatsOk.nil⟩, GamOk.cons (.pure pt) GamOk.nil, by kernel_rfl⟩
def fI (g : Nat → Int) (j : Nat) : Nat := ofI .f64 (g j)
def ptsL (len : Nat) (g : Nat → Int) : Fam := ⟨Nat, fun i =>
  ⟨19, [(3, .slcc 1 i), (6, .slcc 0 len), (7, .int .i64 len), (8, .int .i64 i)], [(0, ⟨false, 23, .ints .i64 (2 * len) g, 0⟩), (1, ⟨true, 100, .flts .f64 (2 * i) (fI g), 2⟩)], 2⟩, fun i => i ≤ len, fun i => len - i⟩
theorem more_twoF {i : Nat} {g : Nat → Nat} {x y : Nat} (hx : x = g (2 * i)) (hy : y = g (2 * i + 1)) : ∀ j, j < 2 * (i + 1) → more (2 * i) g [x, y] 0 j = g j := by
  intro j hj
  subst hx hy
  unfold more
  split
  · rfl
  · have : j = 2 * i ∨ j = 2 * i + 1 := by omega
    rcases this with rfl | rfl <;> simp
noncomputable def ptsC : List SV → RdM
  | [.slcc n len] => .read n fun o0 => (match intsFrom .i64 o0.c with
    | some (m0, g) => .ret ⟨[.slcc 0 len], [(0, ⟨false, 23, .ints .i64 m0 g, 0⟩)], .slcc 1 len, [], [(1, ⟨true, 100, .flts .f64 (2 * len) (fI g), 2⟩)], some (m0 = 2 * len ∧ len ≤ 1000000)⟩
    | none => .fail)
  | _ => .fail
theorem vc_pts (len : Nat)  (g : Nat → Int) : runA GPT 1 [(3, ptsL len g)] [] (codeOf Tryz.f74) (init Tryz.f74.ntmps [.slcc 0 len] [(0, ⟨false, 23, .ints .i64 (2 * len) g, 0⟩)] 1) (endK GPT.E.T Tryz.f74.results.toList fun S v => postP 1 ⟨[.slcc 0 len], [(0, ⟨false, 23, .ints .i64 (2 * len) g, 0⟩)], .slcc 1 len, [], [(1, ⟨true, 100, .flts .f64 (2 * len) (fI g), 2⟩)], some (2 * len = 2 * len ∧ len ≤ 1000000)⟩ S v) = (
(∃ (i : Nat), i ≤ len ∧ (i = (0 : Nat) ∧ (True ∧ len = len) ∧ (↑len : Int) = (↑len : Int) ∧ (0 : Int) = (↑i : Int) ∧ True) ∧ True ∧ ((2 : Nat) * len ≤ (2 : Nat) * len ∧ ∀ (i : Nat), i < (2 : Nat) * len → g i = g i) ∧ True ∧ (2 : Nat) * i = (0 : Nat)
∧ True) ∧ ∀ (i : Nat), i ≤ len → (decide ((↑i : Int) < (↑len : Int)) = true → (((0 : Int) ≤ (↑i : Int) ∧ (↑i : Int) < (↑len : Int)) ∧ (1 : Nat) ≤ (2 : Nat) * len) ∧ (0 : Nat) + Int.toNat (↑i : Int) * (2 : Nat) + (2 : Nat) ≤ (2 : Nat) * len ∧ ((2 :
Nat) * i = i * (2 : Nat) ∧ (i + (1 : Nat)) * (16 : Nat) ≤ (140737488355328 : Nat) ∧ i + (1 : Nat) ≤ (9223372036854775807 : Nat)) ∧ ∃ (i' : Nat), i' ≤ len ∧ len - i' < len - i ∧ ((True ∧ i + (1 : Nat) = i') ∧ (True ∧ len = len) ∧ (↑len : Int) = (↑len
: Int) ∧ Go.IntKind.wrap .i64 ((↑i : Int) + (1 : Int)) = (↑i' : Int) ∧ True) ∧ True ∧ ((2 : Nat) * len ≤ (2 : Nat) * len ∧ ∀ (i : Nat), i < (2 : Nat) * len → g i = g i) ∧ True ∧ ((100 : Nat) = (100 : Nat) ∧ (2 : Nat) = (2 : Nat) ∧ (2 : Nat) * i' ≤ (2
: Nat) * i + List.length [Go.Sx.ofI .f64 (g ((0 : Nat) + Int.toNat (↑i : Int) * (2 : Nat))), Go.Sx.ofI .f64 (g ((0 : Nat) + Int.toNat (↑i : Int) * (2 : Nat) + (1 : Nat)))] ∧ ∀ (i_1 : Nat), i_1 < (2 : Nat) * i' → Go.Sx.more ((2 : Nat) * i)
(Go.Proofs.Tryz.Sx.fI g) [Go.Sx.ofI .f64 (g ((0 : Nat) + Int.toNat (↑i : Int) * (2 : Nat))), Go.Sx.ofI .f64 (g ((0 : Nat) + Int.toNat (↑i : Int) * (2 : Nat) + (1 : Nat)))] (0 : Nat) i_1 = Go.Proofs.Tryz.Sx.fI g i_1) ∧ True) ∧ (decide ((↑i : Int) <
(↑len : Int)) = false → (True ∧ i = len) ∧ True ∧ ((100 : Nat) = (100 : Nat) ∧ (2 : Nat) = (2 : Nat) ∧ (2 : Nat) * len ≤ (2 : Nat) * i ∧ ∀ (i : Nat), i < (2 : Nat) * len → Go.Proofs.Tryz.Sx.fI g i = Go.Proofs.Tryz.Sx.fI g i) ∧ True)) := by kernel_rfl
theorem pts : ConOk Tryz.prog 74 (conR ptsC) := by
  refine con_of_vc gPT Tryz.func74 rfl (by kernel_rfl) fun args => ?_
  unfold ptsC
  split
  · rename_i n len
    intro o0
    show RdM.All _ (match intsFrom .i64 o0.c with | some (m, g) => _ | none => _) _
    split
    · rename_i m0 g hm0
      intro ho
      replace ho : m0 = 2 * len ∧ len ≤ 1000000 := ho
      obtain ⟨hsz0, ho⟩ := ho
      subst hsz0
      refine ⟨?_, _, _, (vc_pts len g).mpr ?_⟩
      · refine okFlag_mk rfl ⟨?_, ⟨trivial, (contR_ints hm0).1, trivial⟩⟩
        simp [eqvRL, eqvR, kEq_self, fkEq_self, sgSig, fsts, nth, sameN_self]
      · refine ⟨⟨0, by omega, by simp⟩, fun i hi => ?_⟩
        have e : i * 2 = 2 * i := by omega
        simp only [Int.toNat_natCast, Nat.zero_add, e, true_and, and_true, implies_true, Nat.le_refl]
        refine ⟨fun h => ?_, fun h => ?_⟩
        · have h := of_decide_eq_true h
          have hw : IntKind.i64.wrap ((i : Int) + 1) = ((i + 1 : Nat) : Int) := by rw [wrap64 (by omega) (by omega)]; omega
          refine ⟨by omega, by omega, by omega, i + 1, by omega, by omega, ⟨rfl, hw⟩, ?_, more_twoF rfl rfl⟩
          show 2 * (i + 1) ≤ 2 * i + 2
          omega
        · have h := of_decide_eq_false h
          omega
    · trivial
  · trivial
end Go.Proofs.Tryz.Sx

/- Shapes become geometries. -/
namespace Go.Proofs.Tryz.Sx
open Go Go.Sx Go.Proofs Go.Fl Go.Geo
set_option maxRecDepth 100000

def crn (g : Nat → Int) (len : Nat) (i : Int) (k : Nat) : Int := if i < len then g (2 * i.toNat + k) else 0
noncomputable def cornerC : List SV → RdM
  | [.agg [.int .i64 k, .slcc n len, .nils], .int .i64 i] => .read n fun o0 => (match intsFrom .i64 o0.c with
    | some (m0, g) => .ret ⟨[.agg [.int .i64 k, .slcc 0 len, .nils], .int .i64 i], [(0, ⟨false, 23, .ints .i64 m0 g, 0⟩)], .agg [.int .i64 (crn g len i 0), .int .i64 (crn g len i 1)], [], [], some (m0 = 2 * len ∧ 0 ≤ i)⟩
    | none => .fail)
  | _ => .fail
theorem vc_corner (k : Int) (len : Nat) (i : Int)  (g : Nat → Int) : runA G0 1 [] [] (codeOf Tryz.f72) (init Tryz.f72.ntmps [.agg [.int .i64 k, .slcc 0 len, .nils], .int .i64 i] [(0, ⟨false, 23, .ints .i64 (2 * len) g, 0⟩)] 1) (endK G0.E.T Tryz.f72.results.toList fun S v => postP 1 ⟨[.agg [.int .i64 k, .slcc 0 len, .nils], .int .i64 i], [(0, ⟨false, 23, .ints .i64 (2 * len) g, 0⟩)], .agg [.int .i64 (crn g len i 0), .int .i64 (crn g len i 1)], [], [], some (2 * len = 2 * len ∧ 0 ≤ i)⟩ S v) = (
(decide (i < (↑len : Int)) = true → (((0 : Int) ≤ i ∧ i < (↑len : Int)) ∧ (1 : Nat) ≤ (2 : Nat) * len) ∧ (0 : Nat) + Int.toNat i * (2 : Nat) + (2 : Nat) ≤ (2 : Nat) * len ∧ (g ((0 : Nat) + Int.toNat i * (2 : Nat)) = Go.Proofs.Tryz.Sx.crn g len i (0 :
Nat) ∧ g ((0 : Nat) + Int.toNat i * (2 : Nat) + (1 : Nat)) = Go.Proofs.Tryz.Sx.crn g len i (1 : Nat) ∧ True) ∧ True) ∧ (decide (i < (↑len : Int)) = false → ((0 : Int) = Go.Proofs.Tryz.Sx.crn g len i (0 : Nat) ∧ (0 : Int) = Go.Proofs.Tryz.Sx.crn g len
i (1 : Nat) ∧ True) ∧ True)) := by kernel_rfl
theorem corner : ConOk Tryz.prog 72 (conR cornerC) := by
  refine con_of_vc g0 Tryz.func72 rfl (by kernel_rfl) fun args => ?_
  unfold cornerC
  split
  · rename_i k n len i
    intro o0
    show RdM.All _ (match intsFrom .i64 o0.c with | some (m, g) => _ | none => _) _
    split
    · rename_i m0 g hm0
      intro ho
      replace ho : m0 = 2 * len ∧ 0 ≤ i := ho
      obtain ⟨hsz0, ho⟩ := ho
      subst hsz0
      refine ⟨?_, _, _, (vc_corner k len i g).mpr ?_⟩
      · refine okFlag_mk rfl ⟨?_, ⟨trivial, (contR_ints hm0).1, trivial⟩⟩
        simp [eqvRL, eqvR, kEq_self, fkEq_self, sgSig, fsts, nth, sameN_self]
      · have e : 0 + i.toNat * 2 = 2 * i.toNat := by omega
        refine ⟨fun h => ?_, fun h => ?_⟩
        · have h := of_decide_eq_true h
          rw [e]
          simp [crn, h]
          omega
        · have h := of_decide_eq_false h
          simp [crn, h]
    · trivial
  · trivial

noncomputable def GSH : Ctx := ⟨⟨tys, []⟩, [(72, conR cornerC), (75, pureCon ptF), (68, pureCon mkRectF), (74, conR ptsC), (73, conR newLineC)]⟩
theorem gSH : CtxOk Tryz.prog GSH := ⟨⟨tysOk, FlatsOk.nil⟩, GamOk.cons corner (GamOk.cons (.pure pt) (GamOk.cons (.pure mkRect) (GamOk.cons pts (GamOk.cons newLine GamOk.nil)))), by kernel_rfl⟩
def fcr (g : Nat → Int) (len : Nat) (i : Int) (k : Nat) : Nat := ofI .f64 (crn g len i k)
/-- A point. -/
noncomputable def shaped0C : List SV → RdM
  | [.agg [.int .i64 0, .slcc n len, .nils], .ptr o 0] => .read n fun o0 => (match intsFrom .i64 o0.c with
    | some (m0, g) => .read o fun o1 => (match optOf o1.c with
    | some (km, mm) => .ret ⟨[.agg [.int .i64 0, .slcc 0 len, .nils], .ptr 1 0], [(0, ⟨false, 23, .ints .i64 m0 g, 0⟩), (1, ⟨false, 148, optC km mm, 0⟩)], .ifc 100 (.agg [.flt .f64 (fcr g len 0 0), .flt .f64 (fcr g len 0 1)]), [], [], some (m0 = 2 * len ∧ True)⟩
    | none => .fail)
    | none => .fail)
  | _ => .fail
theorem vc_shaped0 (len : Nat) (km mm : Int)  (g : Nat → Int) : runA GSH 2 [] [] (codeOf Tryz.f63) (init Tryz.f63.ntmps [.agg [.int .i64 0, .slcc 0 len, .nils], .ptr 1 0] [(0, ⟨false, 23, .ints .i64 (2 * len) g, 0⟩), (1, ⟨false, 148, optC km mm, 0⟩)] 2) (endK GSH.E.T Tryz.f63.results.toList fun S v => postP 2 ⟨[.agg [.int .i64 0, .slcc 0 len, .nils], .ptr 1 0], [(0, ⟨false, 23, .ints .i64 (2 * len) g, 0⟩), (1, ⟨false, 148, optC km mm, 0⟩)], .ifc 100 (.agg [.flt .f64 (fcr g len 0 0), .flt .f64 (fcr g len 0 1)]), [], [], some (2 * len = 2 * len ∧ True)⟩ S v) = (
(false = true → ((2 : Nat) * len = (2 : Nat) * len ∧ (0 : Int) ≤ (0 : Int)) ∧ ((2 : Nat) * len = (2 : Nat) * len ∧ (0 : Int) ≤ (1 : Int)) ∧ true = true ∧ False ∧ True) ∧ (false = false → (false = true → ((2 : Nat) * len = (2 : Nat) * len ∧ len ≤
(1000000 : Nat)) ∧ ((2 : Nat) * len = (2 : Nat) * len ∧ km = (0 : Int) ∧ len ≤ (1000000 : Nat) ∧ (Go.Proofs.Tryz.Sx.ppBig len false = true → Go.Proofs.Tryz.Sx.ppOk (Go.Proofs.Tryz.Sx.fI g) len)) ∧ False ∧ True) ∧ (false = false → (false = true →
False) ∧ (false = false → ((2 : Nat) * len = (2 : Nat) * len ∧ (0 : Int) ≤ (0 : Int)) ∧ (Go.Sx.ofI .f64 (Go.Proofs.Tryz.Sx.crn g len (0 : Int) (0 : Nat)) = Go.Proofs.Tryz.Sx.fcr g len (0 : Int) (0 : Nat) ∧ Go.Sx.ofI .f64 (Go.Proofs.Tryz.Sx.crn g len
(0 : Int) (1 : Nat)) = Go.Proofs.Tryz.Sx.fcr g len (0 : Int) (1 : Nat) ∧ True) ∧ True)))) := by kernel_rfl
theorem shaped0 : ConOk Tryz.prog 63 (conR shaped0C) := by
  refine con_of_vc gSH Tryz.func63 rfl (by kernel_rfl) fun args => ?_
  unfold shaped0C
  split
  · rename_i n len o
    intro o0
    show RdM.All _ (match intsFrom .i64 o0.c with | some (m, g) => _ | none => _) _
    split
    · rename_i m0 g hm0
      intro o1
      show RdM.All _ (match optOf o1.c with | some (km, mm) => _ | none => _) _
      split
      · rename_i km mm hm1
        intro ho
        replace ho : m0 = 2 * len ∧ True := ho
        obtain ⟨hsz0, ho⟩ := ho
        subst hsz0
        refine ⟨?_, _, _, (vc_shaped0 len km mm g).mpr ?_⟩
        · refine okFlag_mk rfl ⟨?_, ⟨trivial, (contR_ints hm0).1, ⟨trivial, optOf_spec hm1, trivial⟩⟩⟩
          simp [eqvRL, eqvR, kEq_self, fkEq_self, sgSig, fsts, nth, sameN_self]
        · simp [fcr]
      · trivial
    · trivial
  · trivial
/-- A rectangle. -/
noncomputable def shaped1C : List SV → RdM
  | [.agg [.int .i64 1, .slcc n len, .nils], .ptr o 0] => .read n fun o0 => (match intsFrom .i64 o0.c with
    | some (m0, g) => .read o fun o1 => (match optOf o1.c with
    | some (km, mm) => .ret ⟨[.agg [.int .i64 1, .slcc 0 len, .nils], .ptr 1 0], [(0, ⟨false, 23, .ints .i64 m0 g, 0⟩), (1, ⟨false, 148, optC km mm, 0⟩)], .ifc 102 (.agg [.flt .f64 (fcr g len 0 0), .flt .f64 (fcr g len 0 1), .flt .f64 (fcr g len 1 0), .flt .f64 (fcr g len 1 1)]), [], [], some (m0 = 2 * len ∧ True)⟩
    | none => .fail)
    | none => .fail)
  | _ => .fail
theorem vc_shaped1 (len : Nat) (km mm : Int)  (g : Nat → Int) : runA GSH 2 [] [] (codeOf Tryz.f63) (init Tryz.f63.ntmps [.agg [.int .i64 1, .slcc 0 len, .nils], .ptr 1 0] [(0, ⟨false, 23, .ints .i64 (2 * len) g, 0⟩), (1, ⟨false, 148, optC km mm, 0⟩)] 2) (endK GSH.E.T Tryz.f63.results.toList fun S v => postP 2 ⟨[.agg [.int .i64 1, .slcc 0 len, .nils], .ptr 1 0], [(0, ⟨false, 23, .ints .i64 (2 * len) g, 0⟩), (1, ⟨false, 148, optC km mm, 0⟩)], .ifc 102 (.agg [.flt .f64 (fcr g len 0 0), .flt .f64 (fcr g len 0 1), .flt .f64 (fcr g len 1 0), .flt .f64 (fcr g len 1 1)]), [], [], some (2 * len = 2 * len ∧ True)⟩ S v) = (
(true = true → ((2 : Nat) * len = (2 : Nat) * len ∧ (0 : Int) ≤ (0 : Int)) ∧ ((2 : Nat) * len = (2 : Nat) * len ∧ (0 : Int) ≤ (1 : Int)) ∧ true = true ∧ (Go.Sx.ofI .f64 (Go.Proofs.Tryz.Sx.crn g len (0 : Int) (0 : Nat)) = Go.Proofs.Tryz.Sx.fcr g len
(0 : Int) (0 : Nat) ∧ Go.Sx.ofI .f64 (Go.Proofs.Tryz.Sx.crn g len (0 : Int) (1 : Nat)) = Go.Proofs.Tryz.Sx.fcr g len (0 : Int) (1 : Nat) ∧ Go.Sx.ofI .f64 (Go.Proofs.Tryz.Sx.crn g len (1 : Int) (0 : Nat)) = Go.Proofs.Tryz.Sx.fcr g len (1 : Int) (0 :
Nat) ∧ Go.Sx.ofI .f64 (Go.Proofs.Tryz.Sx.crn g len (1 : Int) (1 : Nat)) = Go.Proofs.Tryz.Sx.fcr g len (1 : Int) (1 : Nat) ∧ True) ∧ True) ∧ (true = false → (false = true → ((2 : Nat) * len = (2 : Nat) * len ∧ len ≤ (1000000 : Nat)) ∧ ((2 : Nat) * len
= (2 : Nat) * len ∧ km = (0 : Int) ∧ len ≤ (1000000 : Nat) ∧ (Go.Proofs.Tryz.Sx.ppBig len false = true → Go.Proofs.Tryz.Sx.ppOk (Go.Proofs.Tryz.Sx.fI g) len)) ∧ False ∧ True) ∧ (false = false → (false = true → False) ∧ (false = false → ((2 : Nat) *
len = (2 : Nat) * len ∧ (0 : Int) ≤ (0 : Int)) ∧ False ∧ True)))) := by kernel_rfl
theorem shaped1 : ConOk Tryz.prog 63 (conR shaped1C) := by
  refine con_of_vc gSH Tryz.func63 rfl (by kernel_rfl) fun args => ?_
  unfold shaped1C
  split
  · rename_i n len o
    intro o0
    show RdM.All _ (match intsFrom .i64 o0.c with | some (m, g) => _ | none => _) _
    split
    · rename_i m0 g hm0
      intro o1
      show RdM.All _ (match optOf o1.c with | some (km, mm) => _ | none => _) _
      split
      · rename_i km mm hm1
        intro ho
        replace ho : m0 = 2 * len ∧ True := ho
        obtain ⟨hsz0, ho⟩ := ho
        subst hsz0
        refine ⟨?_, _, _, (vc_shaped1 len km mm g).mpr ?_⟩
        · refine okFlag_mk rfl ⟨?_, ⟨trivial, (contR_ints hm0).1, ⟨trivial, optOf_spec hm1, trivial⟩⟩⟩
          simp [eqvRL, eqvR, kEq_self, fkEq_self, sgSig, fsts, nth, sameN_self]
        · simp [fcr]
      · trivial
    · trivial
  · trivial
/-- A line. -/
noncomputable def shaped2C : List SV → RdM
  | [.agg [.int .i64 2, .slcc n len, .nils], .ptr o 0] => .read n fun o0 => (match intsFrom .i64 o0.c with
    | some (m0, g) => .read o fun o1 => (match optOf o1.c with
    | some (km, mm) => .ret ⟨[.agg [.int .i64 2, .slcc 0 len, .nils], .ptr 1 0], [(0, ⟨false, 23, .ints .i64 m0 g, 0⟩), (1, ⟨false, 148, optC km mm, 0⟩)], .ifc 116 (.ptr 2 0), [], [(2, ⟨true, 152, .cells (rectS len false (fI g) 3 0), 0⟩), (3, ⟨true, 100, .flts .f64 (2 * len) (fI g), 2⟩)], some (m0 = 2 * len ∧ km = 0 ∧ len ≤ 1000000 ∧ (ppBig len false = true → ppOk (fI g) len))⟩
    | none => .fail)
    | none => .fail)
  | _ => .fail
theorem vc_shaped2 (len : Nat) (km mm : Int)  (g : Nat → Int) : runA GSH 2 [] [] (codeOf Tryz.f63) (init Tryz.f63.ntmps [.agg [.int .i64 2, .slcc 0 len, .nils], .ptr 1 0] [(0, ⟨false, 23, .ints .i64 (2 * len) g, 0⟩), (1, ⟨false, 148, optC km mm, 0⟩)] 2) (endK GSH.E.T Tryz.f63.results.toList fun S v => postP 2 ⟨[.agg [.int .i64 2, .slcc 0 len, .nils], .ptr 1 0], [(0, ⟨false, 23, .ints .i64 (2 * len) g, 0⟩), (1, ⟨false, 148, optC km mm, 0⟩)], .ifc 116 (.ptr 2 0), [], [(2, ⟨true, 152, .cells (rectS len false (fI g) 3 0), 0⟩), (3, ⟨true, 100, .flts .f64 (2 * len) (fI g), 2⟩)], some (2 * len = 2 * len ∧ km = 0 ∧ len ≤ 1000000 ∧ (ppBig len false = true → ppOk (fI g) len))⟩ S v) = (
(false = true → ((2 : Nat) * len = (2 : Nat) * len ∧ (0 : Int) ≤ (0 : Int)) ∧ ((2 : Nat) * len = (2 : Nat) * len ∧ (0 : Int) ≤ (1 : Int)) ∧ true = true ∧ False ∧ True ∧ List.length (Go.Proofs.Tryz.Sx.rectS len false (Go.Proofs.Tryz.Sx.fI g) (3 : Nat)
(0 : Int)) = (0 : Nat) ∧ True ∧ (2 : Nat) * len = (0 : Nat) ∧ True) ∧ (false = false → (true = true → ((2 : Nat) * len = (2 : Nat) * len ∧ len ≤ (1000000 : Nat)) ∧ ((2 : Nat) * len = (2 : Nat) * len ∧ km = (0 : Int) ∧ len ≤ (1000000 : Nat) ∧
(Go.Proofs.Tryz.Sx.ppBig len false = true → Go.Proofs.Tryz.Sx.ppOk (Go.Proofs.Tryz.Sx.fI g) len)) ∧ (True ∧ (0 : Nat) = (0 : Nat)) ∧ True ∧ ((152 : Nat) = (152 : Nat) ∧ (0 : Nat) = (0 : Nat) ∧ false = false ∧ (Go.Proofs.Tryz.Sx.ppBig len false &&
Go.Sx.fGt .f64 (Go.Proofs.Tryz.Sx.cwF (Go.Proofs.Tryz.Sx.fI g) len len) (0 : Nat)) = (Go.Proofs.Tryz.Sx.ppBig len false && Go.Sx.fGt .f64 (Go.Proofs.Tryz.Sx.cwF (Go.Proofs.Tryz.Sx.fI g) len len) (0 : Nat)) ∧ (Go.Proofs.Tryz.Sx.ppBig len false &&
!Prod.snd (Go.Proofs.Tryz.Sx.dcF (Go.Proofs.Tryz.Sx.fI g) len len)) = (Go.Proofs.Tryz.Sx.ppBig len false && !Prod.snd (Go.Proofs.Tryz.Sx.dcF (Go.Proofs.Tryz.Sx.fI g) len len)) ∧ (0 : Int) = (0 : Int) ∧ True ∧ Go.Proofs.Tryz.Sx.pick
(Go.Proofs.Tryz.Sx.ppBig len false) (Go.Proofs.Tryz.Sx.rlo (Go.Proofs.Tryz.Sx.fI g) (0 : Nat) len) = Go.Proofs.Tryz.Sx.pick (Go.Proofs.Tryz.Sx.ppBig len false) (Go.Proofs.Tryz.Sx.rlo (Go.Proofs.Tryz.Sx.fI g) (0 : Nat) len) ∧ Go.Proofs.Tryz.Sx.pick
(Go.Proofs.Tryz.Sx.ppBig len false) (Go.Proofs.Tryz.Sx.rlo (Go.Proofs.Tryz.Sx.fI g) (1 : Nat) len) = Go.Proofs.Tryz.Sx.pick (Go.Proofs.Tryz.Sx.ppBig len false) (Go.Proofs.Tryz.Sx.rlo (Go.Proofs.Tryz.Sx.fI g) (1 : Nat) len) ∧ Go.Proofs.Tryz.Sx.pick
(Go.Proofs.Tryz.Sx.ppBig len false) (Go.Proofs.Tryz.Sx.rhi (Go.Proofs.Tryz.Sx.fI g) (0 : Nat) len) = Go.Proofs.Tryz.Sx.pick (Go.Proofs.Tryz.Sx.ppBig len false) (Go.Proofs.Tryz.Sx.rhi (Go.Proofs.Tryz.Sx.fI g) (0 : Nat) len) ∧ Go.Proofs.Tryz.Sx.pick
(Go.Proofs.Tryz.Sx.ppBig len false) (Go.Proofs.Tryz.Sx.rhi (Go.Proofs.Tryz.Sx.fI g) (1 : Nat) len) = Go.Proofs.Tryz.Sx.pick (Go.Proofs.Tryz.Sx.ppBig len false) (Go.Proofs.Tryz.Sx.rhi (Go.Proofs.Tryz.Sx.fI g) (1 : Nat) len) ∧ (True ∧ len = len) ∧
True) ∧ True ∧ ((100 : Nat) = (100 : Nat) ∧ (2 : Nat) = (2 : Nat) ∧ (2 : Nat) * len ≤ (2 : Nat) * len ∧ ∀ (i : Nat), i < (2 : Nat) * len → Go.Proofs.Tryz.Sx.fI g i = Go.Proofs.Tryz.Sx.fI g i) ∧ True) ∧ (true = false → (false = true → False) ∧ (false
= false → ((2 : Nat) * len = (2 : Nat) * len ∧ (0 : Int) ≤ (0 : Int)) ∧ False ∧ True ∧ List.length (Go.Proofs.Tryz.Sx.rectS len false (Go.Proofs.Tryz.Sx.fI g) (3 : Nat) (0 : Int)) = (0 : Nat) ∧ True ∧ (2 : Nat) * len = (0 : Nat) ∧ True)))) := by kernel_rfl
theorem shaped2 : ConOk Tryz.prog 63 (conR shaped2C) := by
  refine con_of_vc gSH Tryz.func63 rfl (by kernel_rfl) fun args => ?_
  unfold shaped2C
  split
  · rename_i n len o
    intro o0
    show RdM.All _ (match intsFrom .i64 o0.c with | some (m, g) => _ | none => _) _
    split
    · rename_i m0 g hm0
      intro o1
      show RdM.All _ (match optOf o1.c with | some (km, mm) => _ | none => _) _
      split
      · rename_i km mm hm1
        intro ho
        replace ho : m0 = 2 * len ∧ km = 0 ∧ len ≤ 1000000 ∧ (ppBig len false = true → ppOk (fI g) len) := ho
        obtain ⟨hsz0, ho⟩ := ho
        subst hsz0
        refine ⟨?_, _, _, (vc_shaped2 len km mm g).mpr ?_⟩
        · refine okFlag_mk rfl ⟨?_, ⟨trivial, (contR_ints hm0).1, ⟨trivial, optOf_spec hm1, trivial⟩⟩⟩
          simp [eqvRL, eqvR, kEq_self, fkEq_self, sgSig, fsts, nth, sameN_self]
        · obtain ⟨hk, hl, hok⟩ := ho
          simp [hk, hl]
          exact hok
      · trivial
    · trivial
  · trivial
end Go.Proofs.Tryz.Sx

/- What a shape says of itself. -/
namespace Go.Proofs.Tryz.Sx
open Go Go.Sx Go.Proofs Go.Fl Go.Geo
set_option maxRecDepth 100000

def GCO : Ctx := ⟨⟨tys, []⟩, [(80, pureCon fromPF)]⟩
theorem gCO : CtxOk Tryz.prog GCO := ⟨⟨tysOk, FlatsOk.nil⟩, GamOk.cons (.pure fromP) GamOk.nil, by kernel_rfl⟩
def cornersF : PF := fun
  | [.agg [.flt .f64 a, .flt .f64 b, .flt .f64 c, .flt .f64 d]] => some (.agg [.int .i64 (toI .f64 a .i64), .int .i64 (toI .f64 b .i64), .int .i64 (toI .f64 c .i64), .int .i64 (toI .f64 d .i64)], some (toIok .f64 a .i64 ∧ toIok .f64 b .i64 ∧ toIok .f64 c .i64 ∧ toIok .f64 d .i64))
  | _ => none
theorem vc_corners (R : SV → Prop) (a b c d : Nat) : runA GCO 0 [] [] (codeOf Tryz.f65) (init Tryz.f65.ntmps [.agg [.flt .f64 a, .flt .f64 b, .flt .f64 c, .flt .f64 d]] [] 0) (endK GCO.E.T Tryz.f65.results.toList fun _ v => R v) = (
(Go.Sx.toIok .f64 a .i64 ∧ Go.Sx.toIok .f64 b .i64) ∧ (Go.Sx.toIok .f64 c .i64 ∧ Go.Sx.toIok .f64 d .i64) ∧ true = true ∧ R (SV.agg [SV.int .i64 (Go.Sx.toI .f64 a .i64), SV.int .i64 (Go.Sx.toI .f64 b .i64), SV.int .i64 (Go.Sx.toI .f64 c .i64), SV.int
.i64 (Go.Sx.toI .f64 d .i64)])) := by kernel_rfl
theorem corners : PureOk Tryz.prog 65 cornersF := by
  refine pure_of_vc gCO Tryz.func65 rfl (by kernel_rfl) ?_
  intro args v p h hp
  unfold cornersF at h
  split at h
  · rename_i a b c d
    injection h with h; injection h with h1 h2; subst h1; subst h2
    have hp : toIok .f64 a .i64 ∧ toIok .f64 b .i64 ∧ toIok .f64 c .i64 ∧ toIok .f64 d .i64 := hp
    refine ⟨rfl, _, _, (vc_corners _ a b c d).mpr ?_⟩
    simp [hp, eqv, eqvL, kEq_self]
  · cases h
noncomputable def GA0 : Ctx := ⟨⟨tys, []⟩, [(63, conR shaped0C), (64, conR optsC), (65, pureCon cornersF), (161, pureCon pRectF), (156, pureCon pEmptyF), (162, pureCon pValidF)]⟩
theorem gA0 : CtxOk Tryz.prog GA0 := ⟨⟨tysOk, FlatsOk.nil⟩, GamOk.cons shaped0 (GamOk.cons opts (GamOk.cons (.pure corners) (GamOk.cons (.pure pRect) (GamOk.cons (.pure pEmpty) (GamOk.cons (.pure pValid) GamOk.nil))))), by kernel_rfl⟩
noncomputable def ask0C : List SV → RdM
  | [.agg [.int .i64 0, .slcc n len, .nils], .int .i64 0, .int .i64 0] => .read n fun o0 => (match intsFrom .i64 o0.c with
    | some (m0, g) => .ret ⟨[.agg [.int .i64 0, .slcc 0 len, .nils], .int .i64 0, .int .i64 0], [(0, ⟨false, 23, .ints .i64 m0 g, 0⟩)], .tup [.agg [.int .i64 (toI .f64 (fcr g len 0 0) .i64), .int .i64 (toI .f64 (fcr g len 0 1) .i64), .int .i64 (toI .f64 (fcr g len 0 0) .i64), .int .i64 (toI .f64 (fcr g len 0 1) .i64)], .bool false, .bool (pvalid (fcr g len 0 0) (fcr g len 0 1))], [], [], some (m0 = 2 * len ∧ toIok .f64 (fcr g len 0 0) .i64 ∧ toIok .f64 (fcr g len 0 1) .i64)⟩
    | none => .fail)
  | _ => .fail
theorem vc_ask0 (len : Nat)  (g : Nat → Int) : runA GA0 1 [] [] (codeOf Tryz.f22) (init Tryz.f22.ntmps [.agg [.int .i64 0, .slcc 0 len, .nils], .int .i64 0, .int .i64 0] [(0, ⟨false, 23, .ints .i64 (2 * len) g, 0⟩)] 1) (endK GA0.E.T Tryz.f22.results.toList fun S v => postP 1 ⟨[.agg [.int .i64 0, .slcc 0 len, .nils], .int .i64 0, .int .i64 0], [(0, ⟨false, 23, .ints .i64 (2 * len) g, 0⟩)], .tup [.agg [.int .i64 (toI .f64 (fcr g len 0 0) .i64), .int .i64 (toI .f64 (fcr g len 0 1) .i64), .int .i64 (toI .f64 (fcr g len 0 0) .i64), .int .i64 (toI .f64 (fcr g len 0 1) .i64)], .bool false, .bool (pvalid (fcr g len 0 0) (fcr g len 0 1))], [], [], some (2 * len = 2 * len ∧ toIok .f64 (fcr g len 0 0) .i64 ∧ toIok .f64 (fcr g len 0 1) .i64)⟩ S v) = (
True ∧ ((2 : Nat) * len = (2 : Nat) * len ∧ True) ∧ true = true ∧ (Go.Sx.toIok .f64 (Go.Proofs.Tryz.Sx.fcr g len (0 : Int) (0 : Nat)) .i64 ∧ Go.Sx.toIok .f64 (Go.Proofs.Tryz.Sx.fcr g len (0 : Int) (1 : Nat)) .i64 ∧ Go.Sx.toIok .f64
(Go.Proofs.Tryz.Sx.fcr g len (0 : Int) (0 : Nat)) .i64 ∧ Go.Sx.toIok .f64 (Go.Proofs.Tryz.Sx.fcr g len (0 : Int) (1 : Nat)) .i64) ∧ ((Go.Sx.toI .f64 (Go.Proofs.Tryz.Sx.fcr g len (0 : Int) (0 : Nat)) .i64 = Go.Sx.toI .f64 (Go.Proofs.Tryz.Sx.fcr g len
(0 : Int) (0 : Nat)) .i64 ∧ Go.Sx.toI .f64 (Go.Proofs.Tryz.Sx.fcr g len (0 : Int) (1 : Nat)) .i64 = Go.Sx.toI .f64 (Go.Proofs.Tryz.Sx.fcr g len (0 : Int) (1 : Nat)) .i64 ∧ Go.Sx.toI .f64 (Go.Proofs.Tryz.Sx.fcr g len (0 : Int) (0 : Nat)) .i64 =
Go.Sx.toI .f64 (Go.Proofs.Tryz.Sx.fcr g len (0 : Int) (0 : Nat)) .i64 ∧ Go.Sx.toI .f64 (Go.Proofs.Tryz.Sx.fcr g len (0 : Int) (1 : Nat)) .i64 = Go.Sx.toI .f64 (Go.Proofs.Tryz.Sx.fcr g len (0 : Int) (1 : Nat)) .i64 ∧ True) ∧ false = false ∧
Go.Proofs.Tryz.Sx.pvalid (Go.Proofs.Tryz.Sx.fcr g len (0 : Int) (0 : Nat)) (Go.Proofs.Tryz.Sx.fcr g len (0 : Int) (1 : Nat)) = Go.Proofs.Tryz.Sx.pvalid (Go.Proofs.Tryz.Sx.fcr g len (0 : Int) (0 : Nat)) (Go.Proofs.Tryz.Sx.fcr g len (0 : Int) (1 :
Nat)) ∧ True) ∧ True) := by kernel_rfl
theorem ask0 : ConOk Tryz.prog 22 (conR ask0C) := by
  refine con_of_vc gA0 Tryz.func22 rfl (by kernel_rfl) fun args => ?_
  unfold ask0C
  split
  · rename_i n len
    intro o0
    show RdM.All _ (match intsFrom .i64 o0.c with | some (m, g) => _ | none => _) _
    split
    · rename_i m0 g hm0
      intro ho
      replace ho : m0 = 2 * len ∧ toIok .f64 (fcr g len 0 0) .i64 ∧ toIok .f64 (fcr g len 0 1) .i64 := ho
      obtain ⟨hsz0, ho⟩ := ho
      subst hsz0
      refine ⟨?_, _, _, (vc_ask0 len g).mpr ?_⟩
      · refine okFlag_mk rfl ⟨?_, ⟨trivial, (contR_ints hm0).1, trivial⟩⟩
        simp [eqvRL, eqvR, kEq_self, fkEq_self, sgSig, fsts, nth, sameN_self]
      · simp [ho]
    · trivial
  · trivial

noncomputable def GA1 : Ctx := ⟨⟨tys, []⟩, [(63, conR shaped1C), (64, conR optsC), (65, pureCon cornersF), (198, pureCon rRectF), (192, pureCon rEmptyF), (200, pureCon rValidF)]⟩
theorem gA1 : CtxOk Tryz.prog GA1 := ⟨⟨tysOk, FlatsOk.nil⟩, GamOk.cons shaped1 (GamOk.cons opts (GamOk.cons (.pure corners) (GamOk.cons (.pure rRect) (GamOk.cons (.pure rEmpty) (GamOk.cons (.pure rValid) GamOk.nil))))), by kernel_rfl⟩
noncomputable def ask1C : List SV → RdM
  | [.agg [.int .i64 1, .slcc n len, .nils], .int .i64 0, .int .i64 0] => .read n fun o0 => (match intsFrom .i64 o0.c with
    | some (m0, g) => .ret ⟨[.agg [.int .i64 1, .slcc 0 len, .nils], .int .i64 0, .int .i64 0], [(0, ⟨false, 23, .ints .i64 m0 g, 0⟩)], .tup [.agg [.int .i64 (toI .f64 (fcr g len 0 0) .i64), .int .i64 (toI .f64 (fcr g len 0 1) .i64), .int .i64 (toI .f64 (fcr g len 1 0) .i64), .int .i64 (toI .f64 (fcr g len 1 1) .i64)], .bool false, .bool (pvalid (fcr g len 0 0) (fcr g len 0 1) && pvalid (fcr g len 1 0) (fcr g len 1 1))], [], [], some (m0 = 2 * len ∧ toIok .f64 (fcr g len 0 0) .i64 ∧ toIok .f64 (fcr g len 0 1) .i64 ∧ toIok .f64 (fcr g len 1 0) .i64 ∧ toIok .f64 (fcr g len 1 1) .i64)⟩
    | none => .fail)
  | _ => .fail
theorem vc_ask1 (len : Nat)  (g : Nat → Int) : runA GA1 1 [] [] (codeOf Tryz.f22) (init Tryz.f22.ntmps [.agg [.int .i64 1, .slcc 0 len, .nils], .int .i64 0, .int .i64 0] [(0, ⟨false, 23, .ints .i64 (2 * len) g, 0⟩)] 1) (endK GA1.E.T Tryz.f22.results.toList fun S v => postP 1 ⟨[.agg [.int .i64 1, .slcc 0 len, .nils], .int .i64 0, .int .i64 0], [(0, ⟨false, 23, .ints .i64 (2 * len) g, 0⟩)], .tup [.agg [.int .i64 (toI .f64 (fcr g len 0 0) .i64), .int .i64 (toI .f64 (fcr g len 0 1) .i64), .int .i64 (toI .f64 (fcr g len 1 0) .i64), .int .i64 (toI .f64 (fcr g len 1 1) .i64)], .bool false, .bool (pvalid (fcr g len 0 0) (fcr g len 0 1) && pvalid (fcr g len 1 0) (fcr g len 1 1))], [], [], some (2 * len = 2 * len ∧ toIok .f64 (fcr g len 0 0) .i64 ∧ toIok .f64 (fcr g len 0 1) .i64 ∧ toIok .f64 (fcr g len 1 0) .i64 ∧ toIok .f64 (fcr g len 1 1) .i64)⟩ S v) = (
True ∧ ((2 : Nat) * len = (2 : Nat) * len ∧ True) ∧ true = true ∧ (Go.Sx.toIok .f64 (Go.Proofs.Tryz.Sx.fcr g len (0 : Int) (0 : Nat)) .i64 ∧ Go.Sx.toIok .f64 (Go.Proofs.Tryz.Sx.fcr g len (0 : Int) (1 : Nat)) .i64 ∧ Go.Sx.toIok .f64
(Go.Proofs.Tryz.Sx.fcr g len (1 : Int) (0 : Nat)) .i64 ∧ Go.Sx.toIok .f64 (Go.Proofs.Tryz.Sx.fcr g len (1 : Int) (1 : Nat)) .i64) ∧ ((Go.Sx.toI .f64 (Go.Proofs.Tryz.Sx.fcr g len (0 : Int) (0 : Nat)) .i64 = Go.Sx.toI .f64 (Go.Proofs.Tryz.Sx.fcr g len
(0 : Int) (0 : Nat)) .i64 ∧ Go.Sx.toI .f64 (Go.Proofs.Tryz.Sx.fcr g len (0 : Int) (1 : Nat)) .i64 = Go.Sx.toI .f64 (Go.Proofs.Tryz.Sx.fcr g len (0 : Int) (1 : Nat)) .i64 ∧ Go.Sx.toI .f64 (Go.Proofs.Tryz.Sx.fcr g len (1 : Int) (0 : Nat)) .i64 =
Go.Sx.toI .f64 (Go.Proofs.Tryz.Sx.fcr g len (1 : Int) (0 : Nat)) .i64 ∧ Go.Sx.toI .f64 (Go.Proofs.Tryz.Sx.fcr g len (1 : Int) (1 : Nat)) .i64 = Go.Sx.toI .f64 (Go.Proofs.Tryz.Sx.fcr g len (1 : Int) (1 : Nat)) .i64 ∧ True) ∧ false = false ∧
(Go.Proofs.Tryz.Sx.pvalid (Go.Proofs.Tryz.Sx.fcr g len (0 : Int) (0 : Nat)) (Go.Proofs.Tryz.Sx.fcr g len (0 : Int) (1 : Nat)) && Go.Proofs.Tryz.Sx.pvalid (Go.Proofs.Tryz.Sx.fcr g len (1 : Int) (0 : Nat)) (Go.Proofs.Tryz.Sx.fcr g len (1 : Int) (1 :
Nat))) = (Go.Proofs.Tryz.Sx.pvalid (Go.Proofs.Tryz.Sx.fcr g len (0 : Int) (0 : Nat)) (Go.Proofs.Tryz.Sx.fcr g len (0 : Int) (1 : Nat)) && Go.Proofs.Tryz.Sx.pvalid (Go.Proofs.Tryz.Sx.fcr g len (1 : Int) (0 : Nat)) (Go.Proofs.Tryz.Sx.fcr g len (1 :
Int) (1 : Nat))) ∧ True) ∧ True) := by kernel_rfl
theorem ask1 : ConOk Tryz.prog 22 (conR ask1C) := by
  refine con_of_vc gA1 Tryz.func22 rfl (by kernel_rfl) fun args => ?_
  unfold ask1C
  split
  · rename_i n len
    intro o0
    show RdM.All _ (match intsFrom .i64 o0.c with | some (m, g) => _ | none => _) _
    split
    · rename_i m0 g hm0
      intro ho
      replace ho : m0 = 2 * len ∧ toIok .f64 (fcr g len 0 0) .i64 ∧ toIok .f64 (fcr g len 0 1) .i64 ∧ toIok .f64 (fcr g len 1 0) .i64 ∧ toIok .f64 (fcr g len 1 1) .i64 := ho
      obtain ⟨hsz0, ho⟩ := ho
      subst hsz0
      refine ⟨?_, _, _, (vc_ask1 len g).mpr ?_⟩
      · refine okFlag_mk rfl ⟨?_, ⟨trivial, (contR_ints hm0).1, trivial⟩⟩
        simp [eqvRL, eqvR, kEq_self, fkEq_self, sgSig, fsts, nth, sameN_self]
      · simp [ho]
    · trivial
  · trivial
noncomputable def GLV : Ctx := ⟨⟨tys, []⟩, [(234, conR sValidC)]⟩
theorem gLV : CtxOk Tryz.prog GLV := ⟨⟨tysOk, FlatsOk.nil⟩, GamOk.cons sValid GamOk.nil, by kernel_rfl⟩
noncomputable def lValidC : List SV → RdM
  | [.ptr s 0] => .read s fun o0 => (match serOf o0.c with
    | some (cl, cw, cv, k, x, y, z, w, p, n) => .read p fun o1 => (match fltsFrom .f64 o1.c with
    | some (m1, g) => .ret ⟨[.ptr 0 0], [(0, ⟨false, 150, serC cl cw cv k x y z w 1 n, 0⟩), (1, ⟨false, 100, .flts .f64 m1 g, 0⟩)], .bool (allValid n g), [], [], some (m1 = 2 * n ∧ n ≤ 1000000)⟩
    | none => .fail)
    | none => .fail)
  | _ => .fail
theorem vc_lValid (cl cw cv : Bool) (k : Int) (x y z w : Nat) (p : Nm) (n : Nat)  (g : Nat → Nat) : runA GLV 2 [] [] (codeOf Tryz.f230) (init Tryz.f230.ntmps [.ptr 0 0] [(0, ⟨false, 150, serC cl cw cv k x y z w 1 n, 0⟩), (1, ⟨false, 100, .flts .f64 (2 * n) g, 0⟩)] 2) (endK GLV.E.T Tryz.f230.results.toList fun S v => postP 2 ⟨[.ptr 0 0], [(0, ⟨false, 150, serC cl cw cv k x y z w 1 n, 0⟩), (1, ⟨false, 100, .flts .f64 (2 * n) g, 0⟩)], .bool (allValid n g), [], [], some (2 * n = 2 * n ∧ n ≤ 1000000)⟩ S v) = (
((2 : Nat) * n = (2 : Nat) * n ∧ n ≤ (1000000 : Nat)) ∧ Go.Proofs.Tryz.Sx.allValid n g = Go.Proofs.Tryz.Sx.allValid n g ∧ True) := by kernel_rfl
theorem lValid : ConOk Tryz.prog 230 (conR lValidC) := by
  refine con_of_vc gLV Tryz.func230 rfl (by kernel_rfl) fun args => ?_
  unfold lValidC
  split
  · rename_i s
    intro o0
    show RdM.All _ (match serOf o0.c with | some (cl, cw, cv, k, x, y, z, w, p, n) => _ | none => _) _
    split
    · rename_i cl cw cv k x y z w p n hm0
      intro o1
      show RdM.All _ (match fltsFrom .f64 o1.c with | some (m, g) => _ | none => _) _
      split
      · rename_i m1 g hm1
        intro ho
        replace ho : m1 = 2 * n ∧ n ≤ 1000000 := ho
        obtain ⟨hsz1, ho⟩ := ho
        subst hsz1
        refine ⟨?_, _, _, (vc_lValid cl cw cv k x y z w p n g).mpr ?_⟩
        · refine okFlag_mk rfl ⟨?_, ⟨trivial, serOf_spec hm0 (by simp [sgSig, fsts, nth, sameN_self]), ⟨trivial, (contR_flts hm1).1, trivial⟩⟩⟩
          simp [eqvRL, eqvR, kEq_self, fkEq_self, sgSig, fsts, nth, sameN_self]
        · simp [ho]
      · trivial
    · trivial
  · trivial

noncomputable def GA2 : Ctx := ⟨⟨tys, []⟩, [(63, conR shaped2C), (64, conR optsC), (65, pureCon cornersF), (164, conR sRectSC), (163, conR sEmptyC), (230, conR lValidC)]⟩
theorem gA2 : CtxOk Tryz.prog GA2 := ⟨⟨tysOk, FlatsOk.nil⟩, GamOk.cons shaped2 (GamOk.cons opts (GamOk.cons (.pure corners) (GamOk.cons sRectS (GamOk.cons sEmpty (GamOk.cons lValid GamOk.nil))))), by kernel_rfl⟩
def lnR (f : (Nat → Nat) → Nat → Nat → Nat) (g : Nat → Int) (len k : Nat) : Nat := pick (ppBig len false) (f (fI g) k len)
noncomputable def ask2C : List SV → RdM
  | [.agg [.int .i64 2, .slcc n len, .nils], .int .i64 0, .int .i64 0] => .read n fun o0 => (match intsFrom .i64 o0.c with
    | some (m0, g) => .ret ⟨[.agg [.int .i64 2, .slcc 0 len, .nils], .int .i64 0, .int .i64 0], [(0, ⟨false, 23, .ints .i64 m0 g, 0⟩)], .tup [.agg [.int .i64 (toI .f64 (lnR (fun g => rlo g) g len 0) .i64), .int .i64 (toI .f64 (lnR (fun g => rlo g) g len 1) .i64), .int .i64 (toI .f64 (lnR (fun g => rhi g) g len 0) .i64), .int .i64 (toI .f64 (lnR (fun g => rhi g) g len 1) .i64)], .bool (decide (len < 2 ∨ false = true ∧ len < 3)), .bool (allValid len (fI g))], [], [], some (m0 = 2 * len ∧ len ≤ 1000000 ∧ (ppBig len false = true → ppOk (fI g) len) ∧ toIok .f64 (lnR (fun g => rlo g) g len 0) .i64 ∧ toIok .f64 (lnR (fun g => rlo g) g len 1) .i64 ∧ toIok .f64 (lnR (fun g => rhi g) g len 0) .i64 ∧ toIok .f64 (lnR (fun g => rhi g) g len 1) .i64)⟩
    | none => .fail)
  | _ => .fail
theorem vc_ask2 (len : Nat)  (g : Nat → Int) : runA GA2 1 [] [] (codeOf Tryz.f22) (init Tryz.f22.ntmps [.agg [.int .i64 2, .slcc 0 len, .nils], .int .i64 0, .int .i64 0] [(0, ⟨false, 23, .ints .i64 (2 * len) g, 0⟩)] 1) (endK GA2.E.T Tryz.f22.results.toList fun S v => postP 1 ⟨[.agg [.int .i64 2, .slcc 0 len, .nils], .int .i64 0, .int .i64 0], [(0, ⟨false, 23, .ints .i64 (2 * len) g, 0⟩)], .tup [.agg [.int .i64 (toI .f64 (lnR (fun g => rlo g) g len 0) .i64), .int .i64 (toI .f64 (lnR (fun g => rlo g) g len 1) .i64), .int .i64 (toI .f64 (lnR (fun g => rhi g) g len 0) .i64), .int .i64 (toI .f64 (lnR (fun g => rhi g) g len 1) .i64)], .bool (decide (len < 2 ∨ false = true ∧ len < 3)), .bool (allValid len (fI g))], [], [], some (2 * len = 2 * len ∧ len ≤ 1000000 ∧ (ppBig len false = true → ppOk (fI g) len) ∧ toIok .f64 (lnR (fun g => rlo g) g len 0) .i64 ∧ toIok .f64 (lnR (fun g => rlo g) g len 1) .i64 ∧ toIok .f64 (lnR (fun g => rhi g) g len 0) .i64 ∧ toIok .f64 (lnR (fun g => rhi g) g len 1) .i64)⟩ S v) = (
True ∧ ((2 : Nat) * len = (2 : Nat) * len ∧ (0 : Int) = (0 : Int) ∧ len ≤ (1000000 : Nat) ∧ (Go.Proofs.Tryz.Sx.ppBig len false = true → Go.Proofs.Tryz.Sx.ppOk (Go.Proofs.Tryz.Sx.fI g) len)) ∧ true = true ∧ ((2 : Nat) * len = (2 : Nat) * len ∧ True) ∧
(Go.Sx.toIok .f64 (Go.Proofs.Tryz.Sx.pick (Go.Proofs.Tryz.Sx.ppBig len false) (Go.Proofs.Tryz.Sx.rlo (Go.Proofs.Tryz.Sx.fI g) (0 : Nat) len)) .i64 ∧ Go.Sx.toIok .f64 (Go.Proofs.Tryz.Sx.pick (Go.Proofs.Tryz.Sx.ppBig len false) (Go.Proofs.Tryz.Sx.rlo
(Go.Proofs.Tryz.Sx.fI g) (1 : Nat) len)) .i64 ∧ Go.Sx.toIok .f64 (Go.Proofs.Tryz.Sx.pick (Go.Proofs.Tryz.Sx.ppBig len false) (Go.Proofs.Tryz.Sx.rhi (Go.Proofs.Tryz.Sx.fI g) (0 : Nat) len)) .i64 ∧ Go.Sx.toIok .f64 (Go.Proofs.Tryz.Sx.pick
(Go.Proofs.Tryz.Sx.ppBig len false) (Go.Proofs.Tryz.Sx.rhi (Go.Proofs.Tryz.Sx.fI g) (1 : Nat) len)) .i64) ∧ ((2 : Nat) * len = (2 : Nat) * len ∧ True) ∧ ((2 : Nat) * len = (2 : Nat) * len ∧ len ≤ (1000000 : Nat)) ∧ ((Go.Sx.toI .f64
(Go.Proofs.Tryz.Sx.pick (Go.Proofs.Tryz.Sx.ppBig len false) (Go.Proofs.Tryz.Sx.rlo (Go.Proofs.Tryz.Sx.fI g) (0 : Nat) len)) .i64 = Go.Sx.toI .f64 (Go.Proofs.Tryz.Sx.lnR (fun (g : Nat → Nat) => Go.Proofs.Tryz.Sx.rlo g) g len (0 : Nat)) .i64 ∧
Go.Sx.toI .f64 (Go.Proofs.Tryz.Sx.pick (Go.Proofs.Tryz.Sx.ppBig len false) (Go.Proofs.Tryz.Sx.rlo (Go.Proofs.Tryz.Sx.fI g) (1 : Nat) len)) .i64 = Go.Sx.toI .f64 (Go.Proofs.Tryz.Sx.lnR (fun (g : Nat → Nat) => Go.Proofs.Tryz.Sx.rlo g) g len (1 : Nat))
.i64 ∧ Go.Sx.toI .f64 (Go.Proofs.Tryz.Sx.pick (Go.Proofs.Tryz.Sx.ppBig len false) (Go.Proofs.Tryz.Sx.rhi (Go.Proofs.Tryz.Sx.fI g) (0 : Nat) len)) .i64 = Go.Sx.toI .f64 (Go.Proofs.Tryz.Sx.lnR (fun (g : Nat → Nat) => Go.Proofs.Tryz.Sx.rhi g) g len (0 :
Nat)) .i64 ∧ Go.Sx.toI .f64 (Go.Proofs.Tryz.Sx.pick (Go.Proofs.Tryz.Sx.ppBig len false) (Go.Proofs.Tryz.Sx.rhi (Go.Proofs.Tryz.Sx.fI g) (1 : Nat) len)) .i64 = Go.Sx.toI .f64 (Go.Proofs.Tryz.Sx.lnR (fun (g : Nat → Nat) => Go.Proofs.Tryz.Sx.rhi g) g
len (1 : Nat)) .i64 ∧ True) ∧ decide (len < (2 : Nat) ∨ false = true ∧ len < (3 : Nat)) = decide (len < (2 : Nat) ∨ false = true ∧ len < (3 : Nat)) ∧ Go.Proofs.Tryz.Sx.allValid len (Go.Proofs.Tryz.Sx.fI g) = Go.Proofs.Tryz.Sx.allValid len
(Go.Proofs.Tryz.Sx.fI g) ∧ True) ∧ True) := by kernel_rfl
theorem ask2 : ConOk Tryz.prog 22 (conR ask2C) := by
  refine con_of_vc gA2 Tryz.func22 rfl (by kernel_rfl) fun args => ?_
  unfold ask2C
  split
  · rename_i n len
    intro o0
    show RdM.All _ (match intsFrom .i64 o0.c with | some (m, g) => _ | none => _) _
    split
    · rename_i m0 g hm0
      intro ho
      replace ho : m0 = 2 * len ∧ len ≤ 1000000 ∧ (ppBig len false = true → ppOk (fI g) len) ∧ toIok .f64 (lnR (fun g => rlo g) g len 0) .i64 ∧ toIok .f64 (lnR (fun g => rlo g) g len 1) .i64 ∧ toIok .f64 (lnR (fun g => rhi g) g len 0) .i64 ∧ toIok .f64 (lnR (fun g => rhi g) g len 1) .i64 := ho
      obtain ⟨hsz0, ho⟩ := ho
      subst hsz0
      refine ⟨?_, _, _, (vc_ask2 len g).mpr ?_⟩
      · refine okFlag_mk rfl ⟨?_, ⟨trivial, (contR_ints hm0).1, trivial⟩⟩
        simp [eqvRL, eqvR, kEq_self, fkEq_self, sgSig, fsts, nth, sameN_self]
      · simp only [lnR] at ho ⊢
        obtain ⟨h1, h2, h3, h4, h5, h6⟩ := ho
        simp only [h1, h3, h4, h5, h6, true_and, and_true]
        exact h2
    · trivial
  · trivial
end Go.Proofs.Tryz.Sx

/- Shapes, moved. -/
namespace Go.Proofs.Tryz.Sx
open Go Go.Sx Go.Proofs Go.Fl Go.Geo
set_option maxRecDepth 100000

noncomputable def GM2 : Ctx := ⟨⟨tys, []⟩, [(63, conR shaped2C), (64, conR optsC), (84, conR lMoveC), (83, conR plainC)]⟩
theorem gM2 : CtxOk Tryz.prog GM2 := ⟨⟨tysOk, FlatsOk.nil⟩, GamOk.cons shaped2 (GamOk.cons opts (GamOk.cons lMove (GamOk.cons plain GamOk.nil))), by kernel_rfl⟩
def mvG (g : Nat → Int) (len : Nat) (dx dy : Int) : Nat → Nat := mvI (fI g) (ofI .f64 dx) (ofI .f64 dy) len
noncomputable def moved2C : List SV → RdM
  | [.agg [.int .i64 2, .slcc n len, .nils], .int .i64 dx, .int .i64 dy] => .read n fun o0 => (match intsFrom .i64 o0.c with
    | some (m0, g) => .ret ⟨[.agg [.int .i64 2, .slcc 0 len, .nils], .int .i64 dx, .int .i64 dy], [(0, ⟨false, 23, .ints .i64 m0 g, 0⟩)], .agg [.int .i64 2, .slcc 1 len, .nils], [], [(1, ⟨true, 23, .ints .i64 (2 * len) (wI (mvG g len dx dy)), 2⟩)], some (m0 = 2 * len ∧ len < 64 ∧ (ppBig len false = true → ppOk (fI g) len) ∧ (ppBig len false = true → ppOk (mvG g len dx dy) len) ∧ (∀ j, j < 2 * len → fok .add .f64 (fI g j) (if j % 2 = 0 then ofI .f64 dx else ofI .f64 dy)) ∧ (∀ j, j < 2 * len → toIok .f64 (mvG g len dx dy j) .i64))⟩
    | none => .fail)
  | _ => .fail
theorem vc_moved2 (len : Nat) (dx dy : Int)  (g : Nat → Int) : runA GM2 1 [] [] (codeOf Tryz.f52) (init Tryz.f52.ntmps [.agg [.int .i64 2, .slcc 0 len, .nils], .int .i64 dx, .int .i64 dy] [(0, ⟨false, 23, .ints .i64 (2 * len) g, 0⟩)] 1) (endK GM2.E.T Tryz.f52.results.toList fun S v => postP 1 ⟨[.agg [.int .i64 2, .slcc 0 len, .nils], .int .i64 dx, .int .i64 dy], [(0, ⟨false, 23, .ints .i64 (2 * len) g, 0⟩)], .agg [.int .i64 2, .slcc 1 len, .nils], [], [(1, ⟨true, 23, .ints .i64 (2 * len) (wI (mvG g len dx dy)), 2⟩)], some (2 * len = 2 * len ∧ len < 64 ∧ (ppBig len false = true → ppOk (fI g) len) ∧ (ppBig len false = true → ppOk (mvG g len dx dy) len) ∧ (∀ j, j < 2 * len → fok .add .f64 (fI g j) (if j % 2 = 0 then ofI .f64 dx else ofI .f64 dy)) ∧ (∀ j, j < 2 * len → toIok .f64 (mvG g len dx dy j) .i64))⟩ S v) = (
True ∧ ((2 : Nat) * len = (2 : Nat) * len ∧ (0 : Int) = (0 : Int) ∧ len ≤ (1000000 : Nat) ∧ (Go.Proofs.Tryz.Sx.ppBig len false = true → Go.Proofs.Tryz.Sx.ppOk (Go.Proofs.Tryz.Sx.fI g) len)) ∧ true = true ∧ ((2 : Nat) * len = (2 : Nat) * len ∧ len <
(64 : Nat) ∧ (∀ (j : Nat), j < (2 : Nat) * len → Go.Sx.fok BinOp.add .f64 (Go.Proofs.Tryz.Sx.fI g j) (if j % (2 : Nat) = (0 : Nat) then Go.Sx.ofI .f64 dx else Go.Sx.ofI .f64 dy)) ∧ (Go.Proofs.Tryz.Sx.ppBig len false = true → Go.Proofs.Tryz.Sx.ppOk
(Go.Proofs.Tryz.Sx.mvI (Go.Proofs.Tryz.Sx.fI g) (Go.Sx.ofI .f64 dx) (Go.Sx.ofI .f64 dy) len) len)) ∧ ((2 : Nat) * len = (2 : Nat) * len ∧ len ≤ (1000000 : Nat) ∧ ∀ (j : Nat), j < (2 : Nat) * len → Go.Sx.toIok .f64 (Go.Proofs.Tryz.Sx.mvI
(Go.Proofs.Tryz.Sx.fI g) (Go.Sx.ofI .f64 dx) (Go.Sx.ofI .f64 dy) len j) .i64) ∧ ((2 : Int) = (2 : Int) ∧ (True ∧ len = len) ∧ True ∧ True) ∧ True ∧ ((23 : Nat) = (23 : Nat) ∧ (2 : Nat) = (2 : Nat) ∧ (2 : Nat) * len ≤ (2 : Nat) * len ∧ ∀ (i : Nat), i
< (2 : Nat) * len → Go.Proofs.Tryz.Sx.wI (Go.Proofs.Tryz.Sx.mvI (Go.Proofs.Tryz.Sx.fI g) (Go.Sx.ofI .f64 dx) (Go.Sx.ofI .f64 dy) len) i = Go.Proofs.Tryz.Sx.wI (Go.Proofs.Tryz.Sx.mvG g len dx dy) i) ∧ True) := by kernel_rfl
theorem moved2 : ConOk Tryz.prog 52 (conR moved2C) := by
  refine con_of_vc gM2 Tryz.func52 rfl (by kernel_rfl) fun args => ?_
  unfold moved2C
  split
  · rename_i n len dx dy
    intro o0
    show RdM.All _ (match intsFrom .i64 o0.c with | some (m, g) => _ | none => _) _
    split
    · rename_i m0 g hm0
      intro ho
      replace ho : m0 = 2 * len ∧ len < 64 ∧ (ppBig len false = true → ppOk (fI g) len) ∧ (ppBig len false = true → ppOk (mvG g len dx dy) len) ∧ (∀ j, j < 2 * len → fok .add .f64 (fI g j) (if j % 2 = 0 then ofI .f64 dx else ofI .f64 dy)) ∧ (∀ j, j < 2 * len → toIok .f64 (mvG g len dx dy j) .i64) := ho
      obtain ⟨hsz0, ho⟩ := ho
      subst hsz0
      refine ⟨?_, _, _, (vc_moved2 len dx dy g).mpr ?_⟩
      · refine okFlag_mk rfl ⟨?_, ⟨trivial, (contR_ints hm0).1, trivial⟩⟩
        simp [eqvRL, eqvR, kEq_self, fkEq_self, sgSig, fsts, nth, sameN_self]
      · unfold mvG at ho ⊢
        obtain ⟨h1, h2, h3, h4, h5⟩ := ho
        have hl : len ≤ 1000000 := by omega
        simp only [h1, hl, true_and, and_true, implies_true, Nat.le_refl]
        exact ⟨h2, ⟨h4, h3⟩, h5⟩
    · trivial
  · trivial

noncomputable def GM0 : Ctx := ⟨⟨tys, []⟩, [(63, conR shaped0C), (64, conR optsC), (81, pureCon pMoveF), (80, pureCon fromPF)]⟩
theorem gM0 : CtxOk Tryz.prog GM0 := ⟨⟨tysOk, FlatsOk.nil⟩, GamOk.cons shaped0 (GamOk.cons opts (GamOk.cons (.pure pMove) (GamOk.cons (.pure fromP) GamOk.nil))), by kernel_rfl⟩
def mv1 (g : Nat → Int) (len : Nat) (i : Int) (k : Nat) (d : Int) : Nat := fop .add .f64 (fcr g len i k) (ofI .f64 d)
def mvOk (g : Nat → Int) (len : Nat) (i : Int) (k : Nat) (d : Int) : Prop := fok .add .f64 (fcr g len i k) (ofI .f64 d) ∧ toIok .f64 (mv1 g len i k d) .i64
noncomputable def moved0C : List SV → RdM
  | [.agg [.int .i64 0, .slcc n len, .nils], .int .i64 dx, .int .i64 dy] => .read n fun o0 => (match intsFrom .i64 o0.c with
    | some (m0, g) => .ret ⟨[.agg [.int .i64 0, .slcc 0 len, .nils], .int .i64 dx, .int .i64 dy], [(0, ⟨false, 23, .ints .i64 m0 g, 0⟩)], .agg [.int .i64 0, .slcc 1 1, .nils], [], [(1, ⟨true, 23, .cells [.int .i64 (toI .f64 (mv1 g len 0 0 dx) .i64), .int .i64 (toI .f64 (mv1 g len 0 1 dy) .i64)], 2⟩)], some (m0 = 2 * len ∧ mvOk g len 0 0 dx ∧ mvOk g len 0 1 dy)⟩
    | none => .fail)
  | _ => .fail
theorem vc_moved0 (len : Nat) (dx dy : Int)  (g : Nat → Int) : runA GM0 1 [] [] (codeOf Tryz.f52) (init Tryz.f52.ntmps [.agg [.int .i64 0, .slcc 0 len, .nils], .int .i64 dx, .int .i64 dy] [(0, ⟨false, 23, .ints .i64 (2 * len) g, 0⟩)] 1) (endK GM0.E.T Tryz.f52.results.toList fun S v => postP 1 ⟨[.agg [.int .i64 0, .slcc 0 len, .nils], .int .i64 dx, .int .i64 dy], [(0, ⟨false, 23, .ints .i64 (2 * len) g, 0⟩)], .agg [.int .i64 0, .slcc 1 1, .nils], [], [(1, ⟨true, 23, .cells [.int .i64 (toI .f64 (mv1 g len 0 0 dx) .i64), .int .i64 (toI .f64 (mv1 g len 0 1 dy) .i64)], 2⟩)], some (2 * len = 2 * len ∧ mvOk g len 0 0 dx ∧ mvOk g len 0 1 dy)⟩ S v) = (
True ∧ ((2 : Nat) * len = (2 : Nat) * len ∧ True) ∧ true = true ∧ (Go.Sx.fok BinOp.add .f64 (Go.Proofs.Tryz.Sx.fcr g len (0 : Int) (0 : Nat)) (Go.Sx.ofI .f64 dx) ∧ Go.Sx.fok BinOp.add .f64 (Go.Proofs.Tryz.Sx.fcr g len (0 : Int) (1 : Nat)) (Go.Sx.ofI
.f64 dy)) ∧ (Go.Sx.toIok .f64 (Go.Sx.fop BinOp.add .f64 (Go.Proofs.Tryz.Sx.fcr g len (0 : Int) (0 : Nat)) (Go.Sx.ofI .f64 dx)) .i64 ∧ Go.Sx.toIok .f64 (Go.Sx.fop BinOp.add .f64 (Go.Proofs.Tryz.Sx.fcr g len (0 : Int) (1 : Nat)) (Go.Sx.ofI .f64 dy))
.i64) ∧ ((0 : Int) = (0 : Int) ∧ (True ∧ (1 : Nat) = (1 : Nat)) ∧ True ∧ True) ∧ True ∧ ((23 : Nat) = (23 : Nat) ∧ (2 : Nat) = (2 : Nat) ∧ Go.Sx.toI .f64 (Go.Sx.fop BinOp.add .f64 (Go.Proofs.Tryz.Sx.fcr g len (0 : Int) (0 : Nat)) (Go.Sx.ofI .f64 dx))
.i64 = Go.Sx.toI .f64 (Go.Proofs.Tryz.Sx.mv1 g len (0 : Int) (0 : Nat) dx) .i64 ∧ Go.Sx.toI .f64 (Go.Sx.fop BinOp.add .f64 (Go.Proofs.Tryz.Sx.fcr g len (0 : Int) (1 : Nat)) (Go.Sx.ofI .f64 dy)) .i64 = Go.Sx.toI .f64 (Go.Proofs.Tryz.Sx.mv1 g len (0 :
Int) (1 : Nat) dy) .i64 ∧ True) ∧ True) := by kernel_rfl
theorem moved0 : ConOk Tryz.prog 52 (conR moved0C) := by
  refine con_of_vc gM0 Tryz.func52 rfl (by kernel_rfl) fun args => ?_
  unfold moved0C
  split
  · rename_i n len dx dy
    intro o0
    show RdM.All _ (match intsFrom .i64 o0.c with | some (m, g) => _ | none => _) _
    split
    · rename_i m0 g hm0
      intro ho
      replace ho : m0 = 2 * len ∧ mvOk g len 0 0 dx ∧ mvOk g len 0 1 dy := ho
      obtain ⟨hsz0, ho⟩ := ho
      subst hsz0
      refine ⟨?_, _, _, (vc_moved0 len dx dy g).mpr ?_⟩
      · refine okFlag_mk rfl ⟨?_, ⟨trivial, (contR_ints hm0).1, trivial⟩⟩
        simp [eqvRL, eqvR, kEq_self, fkEq_self, sgSig, fsts, nth, sameN_self]
      · unfold mvOk mv1 at ho
        obtain ⟨⟨h1, h2⟩, h3, h4⟩ := ho
        simp [h1, h2, h3, h4, mv1]
    · trivial
  · trivial

noncomputable def GM1 : Ctx := ⟨⟨tys, []⟩, [(63, conR shaped1C), (64, conR optsC), (82, pureCon rMoveF), (80, pureCon fromPF)]⟩
theorem gM1 : CtxOk Tryz.prog GM1 := ⟨⟨tysOk, FlatsOk.nil⟩, GamOk.cons shaped1 (GamOk.cons opts (GamOk.cons (.pure rMove) (GamOk.cons (.pure fromP) GamOk.nil))), by kernel_rfl⟩
noncomputable def moved1C : List SV → RdM
  | [.agg [.int .i64 1, .slcc n len, .nils], .int .i64 dx, .int .i64 dy] => .read n fun o0 => (match intsFrom .i64 o0.c with
    | some (m0, g) => .ret ⟨[.agg [.int .i64 1, .slcc 0 len, .nils], .int .i64 dx, .int .i64 dy], [(0, ⟨false, 23, .ints .i64 m0 g, 0⟩)], .agg [.int .i64 1, .slcc 1 2, .nils], [], [(1, ⟨true, 23, .cells [.int .i64 (toI .f64 (mv1 g len 0 0 dx) .i64), .int .i64 (toI .f64 (mv1 g len 0 1 dy) .i64), .int .i64 (toI .f64 (mv1 g len 1 0 dx) .i64), .int .i64 (toI .f64 (mv1 g len 1 1 dy) .i64)], 2⟩)], some (m0 = 2 * len ∧ mvOk g len 0 0 dx ∧ mvOk g len 0 1 dy ∧ mvOk g len 1 0 dx ∧ mvOk g len 1 1 dy)⟩
    | none => .fail)
  | _ => .fail
theorem vc_moved1 (len : Nat) (dx dy : Int)  (g : Nat → Int) : runA GM1 1 [] [] (codeOf Tryz.f52) (init Tryz.f52.ntmps [.agg [.int .i64 1, .slcc 0 len, .nils], .int .i64 dx, .int .i64 dy] [(0, ⟨false, 23, .ints .i64 (2 * len) g, 0⟩)] 1) (endK GM1.E.T Tryz.f52.results.toList fun S v => postP 1 ⟨[.agg [.int .i64 1, .slcc 0 len, .nils], .int .i64 dx, .int .i64 dy], [(0, ⟨false, 23, .ints .i64 (2 * len) g, 0⟩)], .agg [.int .i64 1, .slcc 1 2, .nils], [], [(1, ⟨true, 23, .cells [.int .i64 (toI .f64 (mv1 g len 0 0 dx) .i64), .int .i64 (toI .f64 (mv1 g len 0 1 dy) .i64), .int .i64 (toI .f64 (mv1 g len 1 0 dx) .i64), .int .i64 (toI .f64 (mv1 g len 1 1 dy) .i64)], 2⟩)], some (2 * len = 2 * len ∧ mvOk g len 0 0 dx ∧ mvOk g len 0 1 dy ∧ mvOk g len 1 0 dx ∧ mvOk g len 1 1 dy)⟩ S v) = (
True ∧ ((2 : Nat) * len = (2 : Nat) * len ∧ True) ∧ true = true ∧ (Go.Sx.fok BinOp.add .f64 (Go.Proofs.Tryz.Sx.fcr g len (0 : Int) (0 : Nat)) (Go.Sx.ofI .f64 dx) ∧ Go.Sx.fok BinOp.add .f64 (Go.Proofs.Tryz.Sx.fcr g len (0 : Int) (1 : Nat)) (Go.Sx.ofI
.f64 dy) ∧ Go.Sx.fok BinOp.add .f64 (Go.Proofs.Tryz.Sx.fcr g len (1 : Int) (0 : Nat)) (Go.Sx.ofI .f64 dx) ∧ Go.Sx.fok BinOp.add .f64 (Go.Proofs.Tryz.Sx.fcr g len (1 : Int) (1 : Nat)) (Go.Sx.ofI .f64 dy)) ∧ (Go.Sx.toIok .f64 (Go.Sx.fop BinOp.add .f64
(Go.Proofs.Tryz.Sx.fcr g len (0 : Int) (0 : Nat)) (Go.Sx.ofI .f64 dx)) .i64 ∧ Go.Sx.toIok .f64 (Go.Sx.fop BinOp.add .f64 (Go.Proofs.Tryz.Sx.fcr g len (0 : Int) (1 : Nat)) (Go.Sx.ofI .f64 dy)) .i64) ∧ (Go.Sx.toIok .f64 (Go.Sx.fop BinOp.add .f64
(Go.Proofs.Tryz.Sx.fcr g len (1 : Int) (0 : Nat)) (Go.Sx.ofI .f64 dx)) .i64 ∧ Go.Sx.toIok .f64 (Go.Sx.fop BinOp.add .f64 (Go.Proofs.Tryz.Sx.fcr g len (1 : Int) (1 : Nat)) (Go.Sx.ofI .f64 dy)) .i64) ∧ true = true ∧ ((1 : Int) = (1 : Int) ∧ (True ∧ (2
: Nat) = (2 : Nat)) ∧ True ∧ True) ∧ True ∧ ((23 : Nat) = (23 : Nat) ∧ (2 : Nat) = (2 : Nat) ∧ Go.Sx.toI .f64 (Go.Sx.fop BinOp.add .f64 (Go.Proofs.Tryz.Sx.fcr g len (0 : Int) (0 : Nat)) (Go.Sx.ofI .f64 dx)) .i64 = Go.Sx.toI .f64
(Go.Proofs.Tryz.Sx.mv1 g len (0 : Int) (0 : Nat) dx) .i64 ∧ Go.Sx.toI .f64 (Go.Sx.fop BinOp.add .f64 (Go.Proofs.Tryz.Sx.fcr g len (0 : Int) (1 : Nat)) (Go.Sx.ofI .f64 dy)) .i64 = Go.Sx.toI .f64 (Go.Proofs.Tryz.Sx.mv1 g len (0 : Int) (1 : Nat) dy)
.i64 ∧ Go.Sx.toI .f64 (Go.Sx.fop BinOp.add .f64 (Go.Proofs.Tryz.Sx.fcr g len (1 : Int) (0 : Nat)) (Go.Sx.ofI .f64 dx)) .i64 = Go.Sx.toI .f64 (Go.Proofs.Tryz.Sx.mv1 g len (1 : Int) (0 : Nat) dx) .i64 ∧ Go.Sx.toI .f64 (Go.Sx.fop BinOp.add .f64
(Go.Proofs.Tryz.Sx.fcr g len (1 : Int) (1 : Nat)) (Go.Sx.ofI .f64 dy)) .i64 = Go.Sx.toI .f64 (Go.Proofs.Tryz.Sx.mv1 g len (1 : Int) (1 : Nat) dy) .i64 ∧ True) ∧ True) := by kernel_rfl
theorem moved1 : ConOk Tryz.prog 52 (conR moved1C) := by
  refine con_of_vc gM1 Tryz.func52 rfl (by kernel_rfl) fun args => ?_
  unfold moved1C
  split
  · rename_i n len dx dy
    intro o0
    show RdM.All _ (match intsFrom .i64 o0.c with | some (m, g) => _ | none => _) _
    split
    · rename_i m0 g hm0
      intro ho
      replace ho : m0 = 2 * len ∧ mvOk g len 0 0 dx ∧ mvOk g len 0 1 dy ∧ mvOk g len 1 0 dx ∧ mvOk g len 1 1 dy := ho
      obtain ⟨hsz0, ho⟩ := ho
      subst hsz0
      refine ⟨?_, _, _, (vc_moved1 len dx dy g).mpr ?_⟩
      · refine okFlag_mk rfl ⟨?_, ⟨trivial, (contR_ints hm0).1, trivial⟩⟩
        simp [eqvRL, eqvR, kEq_self, fkEq_self, sgSig, fsts, nth, sameN_self]
      · unfold mvOk mv1 at ho
        obtain ⟨⟨h1, h2⟩, ⟨h3, h4⟩, ⟨h5, h6⟩, h7, h8⟩ := ho
        simp [h1, h2, h3, h4, h5, h6, h7, h8, mv1]
    · trivial
  · trivial
end Go.Proofs.Tryz.Sx

/- impl.RectAsk: what a rectangle says, by whole numbers. -/
namespace Go.Proofs.Tryz.Sx
open Go Go.Sx Go.Proofs Go.Fl Go.Geo
set_option maxRecDepth 100000


/-! ### Floats of small whole numbers -/
theorem fi {n : Int} (h : small n) : FI (ofI .f64 n) n := FI_ofInt (by unfold small at h; omega)
theorem fi' {n : Int} (h : n.natAbs < 2 ^ 53) : FI (ofI .f64 n) n := FI_ofInt h
theorem toI_of {n : Int} (h : small n) : toIok .f64 (ofI .f64 n) .i64 ∧ toI .f64 (ofI .f64 n) .i64 = n := toI_FI (fi h) (by unfold small at h; omega)
theorem ge_of {a b : Int} (ha : small a) (hb : small b) : fGe .f64 (ofI .f64 a) (ofI .f64 b) = decide (b ≤ a) := fge_I (fi ha) (fi hb)
theorem le_of {a b : Int} (ha : small a) (hb : small b) : fLe .f64 (ofI .f64 a) (ofI .f64 b) = decide (a ≤ b) := fle_I (fi ha) (fi hb)
theorem lt_of {a b : Int} (ha : small a) (hb : small b) : fLt .f64 (ofI .f64 a) (ofI .f64 b) = decide (a < b) := flt_I (fi ha) (fi hb)
theorem gt_of {a b : Int} (ha : small a) (hb : small b) : fGt .f64 (ofI .f64 a) (ofI .f64 b) = decide (b < a) := fgt_I (fi ha) (fi hb)
theorem eq_of {a b : Int} (ha : small a) (hb : small b) : fEq .f64 (ofI .f64 a) (ofI .f64 b) = decide (a = b) := feq_I (fi ha) (fi hb)
theorem sub_of {a b : Int} (ha : small a) (hb : small b) : fok .sub .f64 (ofI .f64 a) (ofI .f64 b) ∧ FI (fop .sub .f64 (ofI .f64 a) (ofI .f64 b)) (a - b) :=
  sub_I (fi ha) (fi hb) (by unfold small at ha; omega) (by unfold small at hb; omega)
theorem fop_of {op : BinOp} {x y r : Nat} (h : floatBits op .f64 x y = some r) : fok op .f64 x y ∧ fop op .f64 x y = r := by
  unfold fok fop
  rw [h]; exact ⟨rfl, rfl⟩
theorem add_of {a b : Int} (ha : small a) (hb : small b) : fok .add .f64 (ofI .f64 a) (ofI .f64 b) ∧ FI (fop .add .f64 (ofI .f64 a) (ofI .f64 b)) (a + b) := by
  obtain ⟨r, h1, h2⟩ := FI_add (fi ha) (fi hb) (by unfold small at ha hb; omega)
  obtain ⟨h3, h4⟩ := fop_of (op := .add) h1
  exact ⟨h3, by rw [h4]; exact h2⟩
theorem mul_of {x y : Nat} {a b : Int} (hx : FI x a) (hy : FI y b) (h : (a * b).natAbs < 2 ^ 53) : fok .mul .f64 x y ∧ FI (fop .mul .f64 x y) (a * b) := by
  obtain ⟨r, h1, h2⟩ := FI_mul hx hy h
  obtain ⟨h3, h4⟩ := fop_of (op := .mul) h1
  exact ⟨h3, by rw [h4]; exact h2⟩

def center (a c : Int) : Nat := fdiv (fop .add .f64 (ofI .f64 c) (ofI .f64 a)) 4611686018427387904
theorem center_of {a c : Int} (ha : small a) (hc : small c) : fok .add .f64 (ofI .f64 c) (ofI .f64 a) ∧ fdok (fop .add .f64 (ofI .f64 c) (ofI .f64 a)) 4611686018427387904 ∧
    fok .mul .f64 4611686018427387904 (center a c) ∧ toIok .f64 (fop .mul .f64 4611686018427387904 (center a c)) .i64 ∧ toI .f64 (fop .mul .f64 4611686018427387904 (center a c)) .i64 = a + c := by
  obtain ⟨h1, h2⟩ := add_of hc ha
  have hd : fdok (fop .add .f64 (ofI .f64 c) (ofI .f64 a)) 4611686018427387904 := by
    obtain ⟨q, h3, _⟩ := div_QV h2 two_FI (by decide) (by decide) (by unfold small at ha hc; omega)
    have h4 : floatBits .quo .f64 (fop .add .f64 (ofI .f64 c) (ofI .f64 a)) 4611686018427387904 = some q := h3
    unfold fdok; rw [h4]; rfl
  have hq : QuoRel .f64 (fop .add .f64 (ofI .f64 c) (ofI .f64 a)) 4611686018427387904 (center a c) := by
    unfold QuoRel center fdiv
    unfold fdok at hd
    cases h : floatBits .quo .f64 (fop .add .f64 (ofI .f64 c) (ofI .f64 a)) 4611686018427387904 with
    | none => rw [h] at hd; cases hd
    | some v => rfl
  have hh := half_div hq h2 two_FI (by unfold small at ha hc; omega)
  obtain ⟨r, h5, h6⟩ := FH_two hh two_FI (by unfold small at ha hc; omega)
  obtain ⟨h7, h8⟩ := fop_of (op := .mul) h5
  obtain ⟨h9, h10⟩ := toI_FI h6 (by unfold small at ha hc; omega)
  exact ⟨h1, hd, h7, by rw [h8]; exact h9, by rw [h8, h10]; omega⟩

def area (a b c d : Int) : Nat := fop .mul .f64 (fop .sub .f64 (ofI .f64 c) (ofI .f64 a)) (fop .sub .f64 (ofI .f64 d) (ofI .f64 b))
theorem area_of {a b c d : Int} (ha : small a) (hb : small b) (hc : small c) (hd : small d) : fok .mul .f64 (fop .sub .f64 (ofI .f64 c) (ofI .f64 a)) (fop .sub .f64 (ofI .f64 d) (ofI .f64 b)) ∧ FI (area a b c d) ((c - a) * (d - b)) := by
  refine mul_of (sub_of hc ha).2 (sub_of hd hb).2 ?_
  unfold small at ha hb hc hd
  have := mul_bound (show (c - a).natAbs ≤ 2097152 by omega) (show (d - b).natAbs ≤ 2097152 by omega)
  omega

def vld (x y : Int) : Bool := decide (-180 ≤ x ∧ x ≤ 180 ∧ -90 ≤ y ∧ y ≤ 90)
theorem fi_lit {n : Int} {x : Nat} (e : FloatKind.f64.nearest n = x) (h : n.natAbs < 2 ^ 53) : FI x n := by
  have := FI_ofInt h
  rw [e] at this; exact this
theorem pvalid_of {x y : Int} (hx : small x) (hy : small y) : pvalid (ofI .f64 x) (ofI .f64 y) = vld x y := by
  unfold pvalid vld
  rw [fge_I (fi hx) (fi_lit (n := -180) (by decide) (by decide)), fle_I (fi hx) (fi_lit (n := 180) (by decide) (by decide)), fge_I (fi hy) (fi_lit (n := -90) (by decide) (by decide)), fle_I (fi hy) (fi_lit (n := 90) (by decide) (by decide))]
  simp [Bool.and_assoc]

/-! ### RectAsk -/
def sm4 (a b c d : Int) : Prop := small a ∧ small b ∧ small c ∧ small d
def hasI (a b c d x y : Int) : Bool := decide (a ≤ x ∧ x ≤ c ∧ b ≤ y ∧ y ≤ d)
def inI (a b c d p q r s : Int) : Bool := decide (a ≤ p ∧ r ≤ c ∧ b ≤ q ∧ s ≤ d)
def meetI (a b c d p q r s : Int) : Bool := decide (b ≤ s ∧ q ≤ d ∧ a ≤ r ∧ p ≤ c)
theorem has_of {a b c d x y : Int} (ha : small a) (hb : small b) (hc : small c) (hd : small d) (hx : small x) (hy : small y) :
    (fGe .f64 (ofI .f64 x) (ofI .f64 a) && fLe .f64 (ofI .f64 x) (ofI .f64 c) && fGe .f64 (ofI .f64 y) (ofI .f64 b) && fLe .f64 (ofI .f64 y) (ofI .f64 d)) = hasI a b c d x y := by
  rw [ge_of hx ha, le_of hx hc, ge_of hy hb, le_of hy hd]
  unfold hasI
  grind
theorem in_of {a b c d p q r s : Int} (ha : small a) (hb : small b) (hc : small c) (hd : small d) (hp : small p) (hq : small q) (hr : small r) (hs : small s) :
    (!fLt .f64 (ofI .f64 p) (ofI .f64 a) && !fGt .f64 (ofI .f64 r) (ofI .f64 c) && !fLt .f64 (ofI .f64 q) (ofI .f64 b) && !fGt .f64 (ofI .f64 s) (ofI .f64 d)) = inI a b c d p q r s := by
  rw [lt_of hp ha, gt_of hr hc, lt_of hq hb, gt_of hs hd]
  unfold inI
  grind
theorem meet_of {a b c d p q r s : Int} (ha : small a) (hb : small b) (hc : small c) (hd : small d) (hp : small p) (hq : small q) (hr : small r) (hs : small s) :
    (!fGt .f64 (ofI .f64 b) (ofI .f64 s) && !fLt .f64 (ofI .f64 d) (ofI .f64 q) && !fGt .f64 (ofI .f64 a) (ofI .f64 r) && !fLt .f64 (ofI .f64 c) (ofI .f64 p)) = meetI a b c d p q r s := by
  rw [gt_of hb hs, lt_of hd hq, gt_of ha hr, lt_of hc hp]
  unfold meetI
  grind
def pts5 (a b c d : Int) (j : Nat) : Int := [a, b, c, b, c, d, a, d, a, b].getD j 0
def sgs4 (a b c d : Int) (j : Nat) : Int := [a, b, c, b, c, b, c, d, c, d, a, d, a, d, a, b].getD j 0

theorem pt_of {a b c d : Int} (h : sm4 a b c d) {i : Nat} (hi : i ≤ 4) : toIok .f64 (ptAt (ofI .f64 a) (ofI .f64 b) (ofI .f64 c) (ofI .f64 d) i).1 .i64 ∧ toIok .f64 (ptAt (ofI .f64 a) (ofI .f64 b) (ofI .f64 c) (ofI .f64 d) i).2 .i64 ∧
    toI .f64 (ptAt (ofI .f64 a) (ofI .f64 b) (ofI .f64 c) (ofI .f64 d) i).1 .i64 = pts5 a b c d (2 * i) ∧ toI .f64 (ptAt (ofI .f64 a) (ofI .f64 b) (ofI .f64 c) (ofI .f64 d) i).2 .i64 = pts5 a b c d (2 * i + 1) := by
  obtain ⟨ha, hb, hc, hd⟩ := h
  have ta := toI_of ha
  have tb := toI_of hb
  have tc := toI_of hc
  have td := toI_of hd
  have : i = 0 ∨ i = 1 ∨ i = 2 ∨ i = 3 ∨ i = 4 := by omega
  rcases this with rfl | rfl | rfl | rfl | rfl <;> simp [ptAt, pts5, ta, tb, tc, td]
theorem sg_of {a b c d : Int} {i : Nat} (hi : i ≤ 3) : sgs4 a b c d (4 * i) = pts5 a b c d (2 * i) ∧ sgs4 a b c d (4 * i + 1) = pts5 a b c d (2 * i + 1) ∧ sgs4 a b c d (4 * i + 2) = pts5 a b c d (2 * (i + 1)) ∧ sgs4 a b c d (4 * i + 3) = pts5 a b c d (2 * (i + 1) + 1) := by
  have : i = 0 ∨ i = 1 ∨ i = 2 ∨ i = 3 := by omega
  rcases this with rfl | rfl | rfl | rfl <;> exact ⟨rfl, rfl, rfl, rfl⟩

def outC (a b c d p q r s x y : Int) (u v : SV) : List SV := [.bool (hasI a b c d x y), .bool (hasI a b c d x y), .bool (inI a b c d p q r s), .bool (meetI a b c d p q r s), .ff, .bool (vld a b && vld c d), .tt, .ff, .flt .f64 (area a b c d), .int .i64 (a + c), .int .i64 (b + d), u, v]
def z41 : List SV := [.ff, .ff, .ff, .ff, .ff, .ff, .ff, .ff, .flt .f64 0, .int .i64 0, .int .i64 0, .nils, .nils]
def flt4 (a b c d : Int) : List SV := [.flt .f64 (ofI .f64 a), .flt .f64 (ofI .f64 b), .flt .f64 (ofI .f64 c), .flt .f64 (ofI .f64 d)]

def outB (a b c d p q r s x y : Int) (e f : Int) : List SV := [.bool (hasI a b c d x y), .bool (hasI a b c d x y), .bool (inI a b c d p q r s), .bool (meetI a b c d p q r s), .ff, .bool (vld a b && vld c d), .tt, .ff, .flt .f64 (area a b c d), .int .i64 e, .int .i64 f, .nils, .nils]
end Go.Proofs.Tryz.Sx

/- A number times the rounded inverse of another one: where it stands to 0 and 1. -/
namespace Go.Fl
open Go.Sx Ieee

/-- A correctly rounded whole number of least units. -/
structure Rnd (P K E : Nat) : Prop where
  up : 2 * (K * 2 ^ E) ≤ 2 * P + 2 ^ E
  dn : 2 * P ≤ 2 * (K * 2 ^ E) + 2 ^ E
  lo : E = 0 ∨ 2 ^ 52 * 2 ^ E ≤ P
  hi : P < 2 ^ 53 * 2 ^ E
  tie : 2 * (K * 2 ^ E) = 2 * P + 2 ^ E → K % 2 = 0

theorem round_spec (neg : Bool) {mag : Nat} (hm : mag ≠ 0) {place : Int} (hp : -1074 ≤ place) :
    Rnd (mag * 2 ^ (place + 1074).toNat) (keptOf neg mag place) (last mag place + 1074).toNat := by
  have hl1 := Nat.log2_self_le hm
  have hl2 : mag < 2 ^ (mag.log2 + 1) := Nat.lt_log2_self
  have hLdef : last mag place = max (place + mag.log2 - 52) (-1074) := rfl
  have hhi : mag * 2 ^ (place + 1074).toNat < 2 ^ 53 * 2 ^ (last mag place + 1074).toNat := by
    apply Nat.lt_of_lt_of_le (Nat.mul_lt_mul_of_pos_right hl2 (Nat.two_pow_pos _))
    rw [← Nat.pow_add, ← Nat.pow_add]
    exact Nat.pow_le_pow_right (by decide) (by omega)
  have hlo : (last mag place + 1074).toNat = 0 ∨ 2 ^ 52 * 2 ^ (last mag place + 1074).toNat ≤ mag * 2 ^ (place + 1074).toNat := by
    by_cases h : place + mag.log2 - 52 ≤ -1074
    · left; omega
    · right
      apply Nat.le_trans _ (Nat.mul_le_mul_right _ hl1)
      rw [← Nat.pow_add, ← Nat.pow_add]
      exact Nat.pow_le_pow_right (by decide) (by omega)
  by_cases h : last mag place ≤ place
  · have e1 : (last mag place - place).toNat = 0 := by omega
    have hk : keptOf neg mag place = mag * 2 ^ (place - last mag place).toNat := by
      unfold keptOf
      rw [e1, Nat.shiftLeft_eq]
      have := cut_exact neg (mag * 2 ^ (place - last mag place).toNat) 0
      rwa [Nat.pow_zero, Nat.mul_one] at this
    have he : keptOf neg mag place * 2 ^ (last mag place + 1074).toNat = mag * 2 ^ (place + 1074).toNat := by
      rw [hk, Nat.mul_assoc, ← Nat.pow_add]
      congr 2; omega
    have hpos : 0 < 2 ^ (last mag place + 1074).toNat := Nat.two_pow_pos _
    refine ⟨?_, ?_, hlo, hhi, ?_⟩ <;> rw [he] <;> generalize 2 ^ (last mag place + 1074).toNat = g at * <;> generalize mag * 2 ^ (place + 1074).toNat = p at * <;> omega
  · have e1 : (place - last mag place).toNat = 0 := by omega
    have hk : keptOf neg mag place = Toward.even.cut neg mag (last mag place - place).toNat := by
      unfold keptOf
      rw [e1, Nat.shiftLeft_eq, Nat.pow_zero, Nat.mul_one]
    have eE : (last mag place + 1074).toNat = (last mag place - place).toNat + (place + 1074).toNat := by omega
    obtain ⟨h1, h2⟩ := cut_err neg mag (last mag place - place).toNat
    have h3 := cut_tie neg mag (last mag place - place).toNat
    rw [← hk] at h1 h2 h3
    have hq : 0 < 2 ^ (place + 1074).toNat := Nat.two_pow_pos _
    refine ⟨?_, ?_, hlo, hhi, ?_⟩
    · rw [eE, Nat.pow_add]
      have := Nat.mul_le_mul_right (2 ^ (place + 1074).toNat) h1
      rw [Nat.add_mul] at this
      calc 2 * (keptOf neg mag place * (2 ^ (last mag place - place).toNat * 2 ^ (place + 1074).toNat)) = 2 * (keptOf neg mag place * 2 ^ (last mag place - place).toNat) * 2 ^ (place + 1074).toNat := by ac_rfl
        _ ≤ _ := this
        _ = _ := by rw [Nat.mul_assoc]
    · rw [eE, Nat.pow_add]
      have := Nat.mul_le_mul_right (2 ^ (place + 1074).toNat) h2
      rw [Nat.add_mul] at this
      calc 2 * (mag * 2 ^ (place + 1074).toNat) = 2 * mag * 2 ^ (place + 1074).toNat := by rw [Nat.mul_assoc]
        _ ≤ _ := this
        _ = _ := by ac_rfl
    · intro ht
      apply h3
      right
      rw [eE, Nat.pow_add] at ht
      apply Nat.eq_of_mul_eq_mul_right hq
      rw [Nat.add_mul]
      calc 2 * mag * 2 ^ (place + 1074).toNat + 2 ^ (last mag place - place).toNat * 2 ^ (place + 1074).toNat = 2 * (mag * 2 ^ (place + 1074).toNat) + 2 ^ (last mag place - place).toNat * 2 ^ (place + 1074).toNat := by rw [Nat.mul_assoc]
        _ = _ := ht.symm
        _ = _ := by ac_rfl

def E2 : Nat := 1022
theorem U1_E2 : U1 = 52 + E2 := rfl

theorem aux1 {z u x : Nat} (h1 : 2 ^ 53 * z ≤ 2 ^ 53 * u + u) (hu : u = 2 ^ 52 * x) : 2 * z ≤ 2 * u + x := by omega
theorem aux2 {v p z u x : Nat} (hup : 2 * v ≤ 2 * p + x) (h7 : u + x ≤ v) (h3 : p ≤ z) (h : 2 * z ≤ 2 * u + x) : 2 * v = 2 * p + x ∧ v = u + x := by omega
theorem aux3 {v p z u x e : Nat} (hup : 2 * v ≤ 2 * p + e) (h7 : u + e ≤ v) (h3 : p ≤ z) (h : 2 * z ≤ 2 * u + x) (hlo : 2 ^ 52 * e ≤ p) (hhi : p < 2 ^ 53 * e) (h8 : 2 * e ≤ x) (hu : u = 2 ^ 52 * x) : False := by omega

/-- The heart: Y is 1 / b rounded, u the one; a * Y, rounded, against u. -/
theorem inv_le {a b Y k F K E : Nat} (hY : Y = k * 2 ^ F) (hd : DivSpec k F 1 b (2 ^ U1)) (hb0 : 0 < b) (hb : b ≤ 2 ^ 44) (hr : Rnd (a * Y) K E) : K * 2 ^ E ≤ 2 ^ U1 ↔ a ≤ b := by
  have hU : U1 = 1074 := rfl
  -- |Y b - u| ≤ u / 2 ^ 53
  have h1 : 2 ^ 53 * (Y * b) ≤ 2 ^ 53 * 2 ^ U1 + 2 ^ U1 := by
    have hup := hd.up
    have hbl := hd.bl
    rw [Nat.one_mul] at hup hbl
    have e : 2 * k * (2 ^ F * b) = 2 * (Y * b) := by rw [hY]; ac_rfl
    rw [e] at hup
    generalize 2 ^ F * b = g at *
    generalize Y * b = z at *
    generalize 2 ^ U1 = u at *
    omega
  have h2 : 2 ^ 53 * 2 ^ U1 ≤ 2 ^ 53 * (Y * b) + 2 ^ U1 := by
    have hdn := hd.dn
    have hbl := hd.bl
    rw [Nat.one_mul] at hdn hbl
    have e : 2 * k * (2 ^ F * b) = 2 * (Y * b) := by rw [hY]; ac_rfl
    rw [e] at hdn
    generalize 2 ^ F * b = g at *
    generalize Y * b = z at *
    generalize 2 ^ U1 = u at *
    omega
  have hu22 : 2 ^ U1 = 2 ^ 52 * 2 ^ E2 := by rw [← Nat.pow_add, ← U1_E2]
  have hx2 : 0 < 2 ^ E2 := Nat.two_pow_pos _
  have hE2d : E2 = 1022 := rfl
  constructor
  · intro hle
    rcases Nat.lt_or_ge b a with hgt | hge
    · exfalso
      -- a * Y ≥ Y * b + Y
      have h3 : Y * b + Y ≤ a * Y := by
        calc Y * b + Y = (b + 1) * Y := by rw [Nat.add_mul, Nat.one_mul, Nat.mul_comm]
          _ ≤ a * Y := Nat.mul_le_mul_right _ hgt
      have h4 : 2 ^ U1 ≤ 2 ^ 45 * Y := by
        have : Y * b ≤ Y * 2 ^ 44 := Nat.mul_le_mul_left _ hb
        generalize 2 ^ U1 = u at *
        generalize Y * b = z at *
        omega
      have hE : E ≤ E2 := by
        rcases Nat.lt_or_ge E2 E with hc | hc
        · exfalso
          have hdn := hr.dn
          rcases hr.lo with h0 | h0
          · omega
          · have h5 : 2 ^ (E2 + 1) ≤ 2 ^ E := Nat.pow_le_pow_right (by decide) hc
            have h6 : 2 ^ (E2 + 1) = 2 * 2 ^ E2 := by rw [← Nat.pow_succ']
            generalize 2 ^ (E2 + 1) = x3 at *
            generalize 2 ^ E2 = x2 at *
            generalize 2 ^ E = e at *
            generalize K * e = v at *
            generalize a * Y = p at *
            rw [hu22] at hle
            omega
        · exact hc
      have hdn := hr.dn
      have h5 : 2 ^ E ≤ 2 ^ E2 := Nat.pow_le_pow_right (by decide) hE
      generalize 2 ^ E2 = x2 at *
      generalize 2 ^ U1 = u at *
      generalize 2 ^ E = e at *
      generalize K * e = v at *
      generalize a * Y = p at *
      generalize Y * b = z at *
      omega
    · exact hge
  · intro hab
    have h3 : a * Y ≤ Y * b := by rw [Nat.mul_comm]; exact Nat.mul_le_mul_left _ hab
    have hup := hr.up
    by_cases hE0 : E = 0
    · subst hE0
      rw [Nat.pow_zero, Nat.mul_one] at hup ⊢
      have hhi := hr.hi
      rw [Nat.pow_zero, Nat.mul_one] at hhi
      have : 2 ^ 54 ≤ 2 ^ U1 := Nat.pow_le_pow_right (by decide) (by omega)
      generalize 2 ^ U1 = u at *
      generalize a * Y = p at *
      omega
    · have hlo : 2 ^ 52 * 2 ^ E ≤ a * Y := by rcases hr.lo with h | h; exact absurd h hE0; exact h
      have hE : E ≤ E2 := by
        rcases Nat.lt_or_ge E2 E with hc | hc
        · exfalso
          have h5 : 2 ^ (E2 + 1) ≤ 2 ^ E := Nat.pow_le_pow_right (by decide) hc
          have h6 : 2 ^ (E2 + 1) = 2 * 2 ^ E2 := by rw [← Nat.pow_succ']
          rw [hu22] at h1
          generalize 2 ^ (E2 + 1) = x3 at *
          generalize 2 ^ E2 = x2 at *
          generalize 2 ^ E = e at *
          generalize a * Y = p at *
          generalize Y * b = z at *
          omega
        · exact hc
      -- u is a multiple of 2 ^ E
      have hm : 2 ^ U1 = 2 ^ (U1 - E) * 2 ^ E := by rw [← Nat.pow_add, Nat.sub_add_cancel (by omega)]
      have hK : K ≤ 2 ^ (U1 - E) := by
        rcases Nat.lt_or_ge (2 ^ (U1 - E)) K with hc | hc
        · exfalso
          have h7 : (2 ^ (U1 - E) + 1) * 2 ^ E ≤ K * 2 ^ E := Nat.mul_le_mul_right _ hc
          rw [Nat.add_mul, Nat.one_mul, ← hm] at h7
          by_cases hE2 : E = E2
          · subst hE2
            have htie := hr.tie
            have h77 : 2 * (K * 2 ^ E2) = 2 * (a * Y) + 2 ^ E2 ∧ K * 2 ^ E2 = 2 ^ U1 + 2 ^ E2 := aux2 hup h7 h3 (aux1 h1 hu22)
            obtain ⟨hKo, hKeq⟩ := h77
            have hev := htie hKo
            have hK1 : K = 2 ^ (U1 - E2) + 1 := by
              apply Nat.eq_of_mul_eq_mul_right (Nat.two_pow_pos E2)
              rw [hKeq, Nat.add_mul, Nat.one_mul, ← hm]
            have h52 : U1 - E2 = 52 := by omega
            rw [h52] at hK1
            omega
          · have h8 : 2 * 2 ^ E ≤ 2 ^ E2 := by
              rw [← Nat.pow_succ']
              exact Nat.pow_le_pow_right (by decide) (by omega)
            exact aux3 hup h7 h3 (aux1 h1 hu22) hlo hr.hi h8 hu22
        · exact hc
      rw [hm]
      exact Nat.mul_le_mul_right _ hK

theorem zero_FI : FI 0 0 := ⟨fin_zero, by rw [V_zero, Int.zero_mul]⟩

theorem inv_big {b Y k F : Nat} (hY : Y = k * 2 ^ F) (hd : DivSpec k F 1 b (2 ^ U1)) (hb0 : 0 < b) (hb : b ≤ 2 ^ 44) : 2 ^ U1 ≤ 2 ^ 45 * Y ∧ Y ≤ 2 * 2 ^ U1 := by
  have hup := hd.up
  have hdn := hd.dn
  have hbl := hd.bl
  rw [Nat.one_mul] at hup hdn hbl
  have e : 2 * k * (2 ^ F * b) = 2 * (Y * b) := by rw [hY]; ac_rfl
  rw [e] at hup hdn
  have h1 : Y * b ≤ Y * 2 ^ 44 := Nat.mul_le_mul_left _ hb
  have h2 : Y ≤ Y * b := Nat.le_mul_of_pos_right _ hb0
  clear hd hY e
  generalize 2 ^ F * b = g at *
  generalize 2 ^ U1 = u at *
  generalize Y * b = z at *
  have hgu : g ≤ u := by omega
  clear hbl
  have h3 : u ≤ 2 * z := by omega
  have h4 : z ≤ 2 * u := by omega
  clear hup hdn hgu hb
  exact ⟨by omega, by omega⟩

/-- A times the inverse of B. -/
theorem tu {A B r : Nat} {n w : Int} (hA : FI A n) (hB : FI B w) (hw : w ≠ 0) (hn : n.natAbs ≤ 2 ^ 44) (hw2 : w.natAbs ≤ 2 ^ 44) (h : QuoRel .f64 4607182418800017408 B r) :
    fok .mul .f64 A r ∧ fGe .f64 (fop .mul .f64 A r) 0 = decide (0 ≤ n * w) ∧ (0 ≤ n * w → fLe .f64 (fop .mul .f64 A r) 4607182418800017408 = decide (n.natAbs ≤ w.natAbs)) := by
  obtain ⟨q, d1, d2, k, F, d3, d4⟩ := FI_div one_FI hB (by decide) hw (by omega) (by decide)
  have hq : floatBits .quo .f64 4607182418800017408 B = some q := d1
  unfold QuoRel at h
  rw [hq] at h
  have h : q = r := h.symm
  subst h
  have hd0 : decide ((1 : Int) < 0) = false := rfl
  rw [hd0, Bool.false_xor] at d4
  rw [show (1 : Int).natAbs = 1 from rfl] at d3
  obtain ⟨Y, hY⟩ : ∃ Y, Y = k * 2 ^ F := ⟨_, rfl⟩
  rw [← hY] at d4
  obtain ⟨b1, b2⟩ := inv_big hY d3 (by omega) hw2
  have hp : 0 < 2 ^ U1 := Nat.two_pow_pos _
  have hY0 : 0 < Y := by
    generalize 2 ^ U1 = u at *
    omega
  have hYb : 2 ^ U0 ≤ Y := by
    have h1 : 2 ^ U0 * 2 ^ 45 ≤ 2 ^ U1 := by
      rw [← Nat.pow_add]
      exact Nat.pow_le_pow_right (by decide) (by decide)
    generalize 2 ^ U1 = u at *
    generalize 2 ^ U0 = u0 at *
    omega
  have hVabs : (V q).natAbs = Y := by rw [d4]; split <;> omega
  have hVs : decide (V q < 0) = decide (w < 0) := by
    rw [d4]
    by_cases hneg : w < 0
    · rw [decide_eq_true hneg]; simp only [if_true]; exact decide_eq_true (by omega)
    · rw [decide_eq_false hneg]; simp only [Bool.false_eq_true, if_false]; exact decide_eq_false (by omega)
  by_cases h0 : n = 0
  · subst h0
    have hv0 : V A = 0 := by rw [hA.2, Int.zero_mul]
    obtain ⟨t, m1, m2⟩ := mul_zero' hA.1 d2 (.inl hv0)
    have m3 : floatBits .mul .f64 A q = some t := m1
    have hf : fop .mul .f64 A q = t := by unfold fop; rw [m3]; rfl
    refine ⟨by unfold fok; rw [m3]; rfl, ?_, fun _ => ?_⟩
    · rw [hf, fge_I m2 zero_FI, Int.zero_mul]
    · rw [hf, fle_I m2 one_FI]
      exact decide_eq_decide.2 (by omega)
  · have hpi := pow_pos' U1
    have hv0 : V A ≠ 0 := by
      rw [hA.2]
      intro e
      rcases Int.mul_eq_zero.1 e with e | e
      · exact h0 e
      · omega
    have hq0 : V q ≠ 0 := by omega
    obtain ⟨mag, place, m1, m2, m3, m4⟩ := mul_read hA.1 d2 (big_FI hA) (.inr (by rw [hVabs]; exact hYb)) hv0 hq0
    have hP : mag * 2 ^ (place + 1074).toNat = n.natAbs * Y := by
      apply Nat.eq_of_mul_eq_mul_right hp
      rw [m4, hVabs, hA.2, Int.natAbs_mul, natAbs_pow2, Nat.mul_right_comm]
    have hlog : place + mag.log2 ≤ 1022 := by
      have h1 : 2 ^ mag.log2 * 2 ^ (place + 1074).toNat ≤ 2 ^ 45 * 2 ^ U1 := by
        apply Nat.le_trans (Nat.mul_le_mul_right _ (Nat.log2_self_le m2))
        rw [hP]
        apply Nat.le_trans (Nat.mul_le_mul hn b2)
        generalize 2 ^ U1 = u
        omega
      rw [← Nat.pow_add, ← Nat.pow_add] at h1
      have h2 := (Nat.pow_le_pow_iff_right (by decide : 1 < 2)).1 h1
      have : U1 = 1074 := rfl
      omega
    obtain ⟨f1, f2⟩ := nearest_V (decide (V A < 0) ^^ decide (V q < 0)) m2 hlog
    have hR := round_spec (decide (V A < 0) ^^ decide (V q < 0)) m2 m3
    have hpos := (near_bounds (decide (V A < 0) ^^ decide (V q < 0)) m2 m3).1
    rw [hP] at hR
    have hsA : decide (V A < 0) = decide (n < 0) := by
      refine decide_eq_decide.2 ?_
      rw [hA.2]
      constructor
      · intro hh
        rcases Int.lt_or_le n 0 with h1 | h1
        · exact h1
        · have := Int.mul_nonneg h1 (Int.le_of_lt hpi); omega
      · intro hh; exact Int.mul_neg_of_neg_of_pos hh hpi
    rw [hsA, hVs] at f1 f2 hR hpos m1
    have m5 : floatBits .mul .f64 A q = some (double.nearest (decide (n < 0) ^^ decide (w < 0)) mag place) := m1
    have hf : fop .mul .f64 A q = double.nearest (decide (n < 0) ^^ decide (w < 0)) mag place := by unfold fop; rw [m5]; rfl
    have hle := inv_le hY d3 (by omega) hw2 hR
    have hpc : ∀ k : Nat, ((2 ^ k : Nat) : Int) = 2 ^ k := fun k => by rw [Int.natCast_pow]; rfl
    have hone : V 4607182418800017408 = ((2 ^ U1 : Nat) : Int) := by rw [one_FI.2, Int.one_mul, hpc]
    generalize hv : keptOf (decide (n < 0) ^^ decide (w < 0)) mag place * 2 ^ (last mag place + 1074).toNat = v at *
    refine ⟨by unfold fok; rw [m5]; rfl, ?_, fun hnn => ?_⟩
    · rw [hf, fge_V f1 fin_zero, V_zero, f2]
      refine decide_eq_decide.2 ?_
      have hms := mul_sign n w
      have hab : 0 < n.natAbs * w.natAbs := Nat.mul_pos (by omega) (by omega)
      generalize n.natAbs * w.natAbs = m at *
      rw [hms]
      cases (decide (n < 0) ^^ decide (w < 0))
      · simp only [Bool.false_eq_true, if_false]; omega
      · simp only [if_true]; omega
    · rw [hf, fle_V f1 one_FI.1, hone, f2]
      refine decide_eq_decide.2 ?_
      have hms := mul_sign n w
      have hab : 0 < n.natAbs * w.natAbs := Nat.mul_pos (by omega) (by omega)
      generalize n.natAbs * w.natAbs = m at *
      rw [hms] at hnn
      revert hnn
      cases (decide (n < 0) ^^ decide (w < 0))
      · simp only [Bool.false_eq_true, if_false]
        intro _
        rw [← hle]
        exact Int.ofNat_le
      · simp only [if_true]
        intro hnn; omega
end Go.Fl

/- Segment.IntersectsSegment. -/
namespace Go.Proofs.Tryz.Sx
open Go Go.Sx Go.Proofs Go.Fl Go.Geo
set_option maxRecDepth 100000

def eqZeroF : PF := fun
  | [.flt .f64 x] => some (.bool (!(fLt .f64 x 0 || fGt .f64 x 0)), none)
  | _ => none
theorem vc_eqZero (R : SV → Prop) (x : Nat) : runA G0 0 [] [] (codeOf Tryz.f214) (init Tryz.f214.ntmps [.flt .f64 x] [] 0) (endK G0.E.T Tryz.f214.results.toList fun _ v => R v) = (
(Go.Sx.fLt .f64 x (0 : Nat) = true → R SV.ff) ∧ (Go.Sx.fLt .f64 x (0 : Nat) = false → R (SV.bool !Go.Sx.fGt .f64 x (0 : Nat)))) := by kernel_rfl
theorem eqZero : PureOk Tryz.prog 214 eqZeroF := by
  refine pure_of_vc g0 Tryz.func214 rfl (by kernel_rfl) ?_
  intro args v p h hp
  unfold eqZeroF at h
  split at h
  · rename_i x
    injection h with h; injection h with h1 h2; subst h1; subst h2
    clear hp
    refine ⟨rfl, _, _, (vc_eqZero _ x).mpr ?_⟩
    simp only [eqv]
    grind
  · cases h

noncomputable def GIS : Ctx := ⟨⟨tys, [(100, [true, true])]⟩, [(90, pureCon rayF), (214, pureCon eqZeroF)]⟩
theorem gIS : CtxOk Tryz.prog GIS := ⟨⟨tysOk, FlatsOk.cons flat61 FlatsOk.nil⟩, GamOk.cons (.pure ray) (GamOk.cons (.pure eqZero) GamOk.nil), by kernel_rfl⟩

abbrev D (x y : Nat) : Nat := fop .sub .f64 x y
abbrev M (x y : Nat) : Nat := fop .mul .f64 x y
abbrev CR (x y z w : Nat) : Nat := D (M x w) (M y z)

def isH (ax ay bx by' cx cy dx dy : Nat) : Heap := [(0, ⟨true, 111, .cells [.flt .f64 ax, .flt .f64 ay, .flt .f64 bx, .flt .f64 by'], 0⟩), (1, ⟨true, 111, .cells [.flt .f64 cx, .flt .f64 cy, .flt .f64 dx, .flt .f64 dy], 0⟩), (2, ⟨true, 100, .cells [.flt .f64 ax, .flt .f64 ay], 0⟩), (3, ⟨true, 100, .cells [.flt .f64 bx, .flt .f64 by'], 0⟩), (4, ⟨true, 100, .cells [.flt .f64 cx, .flt .f64 cy], 0⟩), (5, ⟨true, 100, .cells [.flt .f64 dx, .flt .f64 dy], 0⟩)]
def isS : Slots := [(2, .ptr 0 0), (3, .ptr 1 0), (5, .ptr 2 0), (6, .ptr 3 0), (7, .ptr 4 0), (8, .ptr 5 0)]
def isF (ax ay bx by' cx cy dx dy : Nat) (p : Prop) : Fam := ⟨Nat, fun _ => ⟨300, isS, isH ax ay bx by' cx cy dx dy, 6⟩, fun _ => p, fun _ => 0⟩
def isF2 (ax ay bx by' cx cy dx dy : Nat) (p : Prop) : Fam := ⟨Nat, fun _ => ⟨300, (9, .flt .f64 (D cx ax)) :: (10, .flt .f64 (D cy ay)) :: (11, .flt .f64 (D bx ax)) :: (12, .flt .f64 (D by' ay)) :: (13, .flt .f64 (CR (D cx ax) (D cy ay) (D bx ax) (D by' ay))) :: isS, isH ax ay bx by' cx cy dx dy, 6⟩, fun _ => p, fun _ => 0⟩
def isF3 (ax ay bx by' cx cy dx dy : Nat) (p : Prop) : Fam := ⟨Nat, fun _ => ⟨300, (13, .flt .f64 (CR (D cx ax) (D cy ay) (D bx ax) (D by' ay))) :: (16, .flt .f64 (CR (D cx ax) (D cy ay) (D dx cx) (D dy cy))) :: (17, .flt .f64 (CR (D bx ax) (D by' ay) (D dx cx) (D dy cy))) :: isS, isH ax ay bx by' cx cy dx dy, 6⟩, fun _ => p, fun _ => 0⟩

def yMeet (a2 b2 c2 d2 : Int) : Prop := ¬ (max a2 b2 < min c2 d2 ∨ max c2 d2 < min a2 b2)
def noEnds (a1 a2 b1 b2 c1 c2 d1 d2 : Int) : Prop := ¬ ((a1 = c1 ∧ a2 = c2) ∨ (a1 = d1 ∧ a2 = d2) ∨ (b1 = c1 ∧ b2 = c2) ∨ (b1 = d1 ∧ b2 = d2))
def xp (x y z w : Int) : Int := x * w - y * z
def half (a b c : Int) : Prop := (c ≤ a ∧ b < c) ∨ (a < c ∧ c ≤ b)
/-- What the code says, by whole numbers. -/
def Isec (a1 a2 b1 b2 c1 c2 d1 d2 : Int) : Prop :=
  yMeet a2 b2 c2 d2 ∧ yMeet a1 b1 c1 d1 ∧ (¬ noEnds a1 a2 b1 b2 c1 c2 d1 d2 ∨
    (xp (c1 - a1) (c2 - a2) (b1 - a1) (b2 - a2) = 0 ∧ (half a1 b1 c1 ∨ half a2 b2 c2 ∨ On a1 a2 b1 b2 c1 c2 ∨ On a1 a2 b1 b2 d1 d2)) ∨
    (xp (c1 - a1) (c2 - a2) (b1 - a1) (b2 - a2) ≠ 0 ∧ xp (b1 - a1) (b2 - a2) (d1 - c1) (d2 - c2) ≠ 0 ∧
      0 ≤ xp (c1 - a1) (c2 - a2) (d1 - c1) (d2 - c2) * xp (b1 - a1) (b2 - a2) (d1 - c1) (d2 - c2) ∧ (xp (c1 - a1) (c2 - a2) (d1 - c1) (d2 - c2)).natAbs ≤ (xp (b1 - a1) (b2 - a2) (d1 - c1) (d2 - c2)).natAbs ∧
      0 ≤ xp (c1 - a1) (c2 - a2) (b1 - a1) (b2 - a2) * xp (b1 - a1) (b2 - a2) (d1 - c1) (d2 - c2) ∧ (xp (c1 - a1) (c2 - a2) (b1 - a1) (b2 - a2)).natAbs ≤ (xp (b1 - a1) (b2 - a2) (d1 - c1) (d2 - c2)).natAbs))
instance (a b c d : Int) : Decidable (yMeet a b c d) := by unfold yMeet; infer_instance
instance (a b c d e f g h : Int) : Decidable (noEnds a b c d e f g h) := by unfold noEnds; infer_instance
instance (a b c : Int) : Decidable (half a b c) := by unfold half; infer_instance
instance (a b c d e f g h : Int) : Decidable (Isec a b c d e f g h) := by unfold Isec; infer_instance

structure P8 (ax ay bx by' cx cy dx dy : Nat) (a1 a2 b1 b2 c1 c2 d1 d2 : Int) : Prop where
  ax : FI ax a1
  ay : FI ay a2
  bx : FI bx b1
  by' : FI by' b2
  cx : FI cx c1
  cy : FI cy c2
  dx : FI dx d1
  dy : FI dy d2
  s : (small a1 ∧ small a2 ∧ small b1 ∧ small b2) ∧ (small c1 ∧ small c2 ∧ small d1 ∧ small d2)

theorem vc_isec (R : SV → Prop) (P1 P2 P3 P4 P5 : Prop) (ax ay bx by' cx cy dx dy : Nat) : runA GIS 0 [] [(2, isF ax ay bx by' cx cy dx dy True), (13, isF ax ay bx by' cx cy dx dy P1), (24, isF ax ay bx by' cx cy dx dy P2), (26, isF ax ay bx by' cx cy dx dy P3), (29, isF2 ax ay bx by' cx cy dx dy P3), (33, isF2 ax ay bx by' cx cy dx dy P4), (36, isF3 ax ay bx by' cx cy dx dy P4), (38, isF3 ax ay bx by' cx cy dx dy P5)] (codeOf Tryz.f210) (init 300 [.agg [.flt .f64 ax, .flt .f64 ay, .flt .f64 bx, .flt .f64 by'], .agg [.flt .f64 cx, .flt .f64 cy, .flt .f64 dx, .flt .f64 dy]] [] 0) (endK GIS.E.T Tryz.f210.results.toList fun _ v => R v) = (
(true = true ∧ ∃ (j : Nat), True ∧ ((True ∧ (0 : Nat) = (0 : Nat)) ∧ (True ∧ (0 : Nat) = (0 : Nat)) ∧ (True ∧ (0 : Nat) = (0 : Nat)) ∧ (True ∧ (0 : Nat) = (0 : Nat)) ∧ (True ∧ (0 : Nat) = (0 : Nat)) ∧ (True ∧ (0 : Nat) = (0 : Nat)) ∧ True) ∧ True ∧
((111 : Nat) = (111 : Nat) ∧ (0 : Nat) = (0 : Nat) ∧ ax = ax ∧ ay = ay ∧ bx = bx ∧ by' = by' ∧ True) ∧ True ∧ ((111 : Nat) = (111 : Nat) ∧ (0 : Nat) = (0 : Nat) ∧ cx = cx ∧ cy = cy ∧ dx = dx ∧ dy = dy ∧ True) ∧ True ∧ ((100 : Nat) = (100 : Nat) ∧ (0
: Nat) = (0 : Nat) ∧ ax = ax ∧ ay = ay ∧ True) ∧ True ∧ ((100 : Nat) = (100 : Nat) ∧ (0 : Nat) = (0 : Nat) ∧ bx = bx ∧ by' = by' ∧ True) ∧ True ∧ ((100 : Nat) = (100 : Nat) ∧ (0 : Nat) = (0 : Nat) ∧ cx = cx ∧ cy = cy ∧ True) ∧ True ∧ ((100 : Nat) =
(100 : Nat) ∧ (0 : Nat) = (0 : Nat) ∧ dx = dx ∧ dy = dy ∧ True) ∧ True) ∧ ∀ (j : Nat), True → ((Go.Sx.fGt .f64 ay by' = true → (Go.Sx.fGt .f64 cy dy = true → (Go.Sx.fGt .f64 by' cy = true → R SV.ff) ∧ (Go.Sx.fGt .f64 by' cy = false → (Go.Sx.fLt .f64
ay dy = true → R SV.ff) ∧ (Go.Sx.fLt .f64 ay dy = false → ∃ (j : Nat), P1 ∧ ((True ∧ (0 : Nat) = (0 : Nat)) ∧ (True ∧ (0 : Nat) = (0 : Nat)) ∧ (True ∧ (0 : Nat) = (0 : Nat)) ∧ (True ∧ (0 : Nat) = (0 : Nat)) ∧ (True ∧ (0 : Nat) = (0 : Nat)) ∧ (True ∧
(0 : Nat) = (0 : Nat)) ∧ True) ∧ True ∧ ((111 : Nat) = (111 : Nat) ∧ (0 : Nat) = (0 : Nat) ∧ ax = ax ∧ ay = ay ∧ bx = bx ∧ by' = by' ∧ True) ∧ True ∧ ((111 : Nat) = (111 : Nat) ∧ (0 : Nat) = (0 : Nat) ∧ cx = cx ∧ cy = cy ∧ dx = dx ∧ dy = dy ∧ True) ∧
True ∧ ((100 : Nat) = (100 : Nat) ∧ (0 : Nat) = (0 : Nat) ∧ ax = ax ∧ ay = ay ∧ True) ∧ True ∧ ((100 : Nat) = (100 : Nat) ∧ (0 : Nat) = (0 : Nat) ∧ bx = bx ∧ by' = by' ∧ True) ∧ True ∧ ((100 : Nat) = (100 : Nat) ∧ (0 : Nat) = (0 : Nat) ∧ cx = cx ∧ cy
= cy ∧ True) ∧ True ∧ ((100 : Nat) = (100 : Nat) ∧ (0 : Nat) = (0 : Nat) ∧ dx = dx ∧ dy = dy ∧ True) ∧ True))) ∧ (Go.Sx.fGt .f64 cy dy = false → (Go.Sx.fGt .f64 by' dy = true → R SV.ff) ∧ (Go.Sx.fGt .f64 by' dy = false → (Go.Sx.fLt .f64 ay cy = true
→ R SV.ff) ∧ (Go.Sx.fLt .f64 ay cy = false → ∃ (j : Nat), P1 ∧ ((True ∧ (0 : Nat) = (0 : Nat)) ∧ (True ∧ (0 : Nat) = (0 : Nat)) ∧ (True ∧ (0 : Nat) = (0 : Nat)) ∧ (True ∧ (0 : Nat) = (0 : Nat)) ∧ (True ∧ (0 : Nat) = (0 : Nat)) ∧ (True ∧ (0 : Nat) =
(0 : Nat)) ∧ True) ∧ True ∧ ((111 : Nat) = (111 : Nat) ∧ (0 : Nat) = (0 : Nat) ∧ ax = ax ∧ ay = ay ∧ bx = bx ∧ by' = by' ∧ True) ∧ True ∧ ((111 : Nat) = (111 : Nat) ∧ (0 : Nat) = (0 : Nat) ∧ cx = cx ∧ cy = cy ∧ dx = dx ∧ dy = dy ∧ True) ∧ True ∧
((100 : Nat) = (100 : Nat) ∧ (0 : Nat) = (0 : Nat) ∧ ax = ax ∧ ay = ay ∧ True) ∧ True ∧ ((100 : Nat) = (100 : Nat) ∧ (0 : Nat) = (0 : Nat) ∧ bx = bx ∧ by' = by' ∧ True) ∧ True ∧ ((100 : Nat) = (100 : Nat) ∧ (0 : Nat) = (0 : Nat) ∧ cx = cx ∧ cy = cy ∧
True) ∧ True ∧ ((100 : Nat) = (100 : Nat) ∧ (0 : Nat) = (0 : Nat) ∧ dx = dx ∧ dy = dy ∧ True) ∧ True)))) ∧ (Go.Sx.fGt .f64 ay by' = false → (Go.Sx.fGt .f64 cy dy = true → (Go.Sx.fGt .f64 ay cy = true → R SV.ff) ∧ (Go.Sx.fGt .f64 ay cy = false →
(Go.Sx.fLt .f64 by' dy = true → R SV.ff) ∧ (Go.Sx.fLt .f64 by' dy = false → ∃ (j : Nat), P1 ∧ ((True ∧ (0 : Nat) = (0 : Nat)) ∧ (True ∧ (0 : Nat) = (0 : Nat)) ∧ (True ∧ (0 : Nat) = (0 : Nat)) ∧ (True ∧ (0 : Nat) = (0 : Nat)) ∧ (True ∧ (0 : Nat) = (0
: Nat)) ∧ (True ∧ (0 : Nat) = (0 : Nat)) ∧ True) ∧ True ∧ ((111 : Nat) = (111 : Nat) ∧ (0 : Nat) = (0 : Nat) ∧ ax = ax ∧ ay = ay ∧ bx = bx ∧ by' = by' ∧ True) ∧ True ∧ ((111 : Nat) = (111 : Nat) ∧ (0 : Nat) = (0 : Nat) ∧ cx = cx ∧ cy = cy ∧ dx = dx ∧
dy = dy ∧ True) ∧ True ∧ ((100 : Nat) = (100 : Nat) ∧ (0 : Nat) = (0 : Nat) ∧ ax = ax ∧ ay = ay ∧ True) ∧ True ∧ ((100 : Nat) = (100 : Nat) ∧ (0 : Nat) = (0 : Nat) ∧ bx = bx ∧ by' = by' ∧ True) ∧ True ∧ ((100 : Nat) = (100 : Nat) ∧ (0 : Nat) = (0 :
Nat) ∧ cx = cx ∧ cy = cy ∧ True) ∧ True ∧ ((100 : Nat) = (100 : Nat) ∧ (0 : Nat) = (0 : Nat) ∧ dx = dx ∧ dy = dy ∧ True) ∧ True))) ∧ (Go.Sx.fGt .f64 cy dy = false → (Go.Sx.fGt .f64 ay dy = true → R SV.ff) ∧ (Go.Sx.fGt .f64 ay dy = false → (Go.Sx.fLt
.f64 by' cy = true → R SV.ff) ∧ (Go.Sx.fLt .f64 by' cy = false → ∃ (j : Nat), P1 ∧ ((True ∧ (0 : Nat) = (0 : Nat)) ∧ (True ∧ (0 : Nat) = (0 : Nat)) ∧ (True ∧ (0 : Nat) = (0 : Nat)) ∧ (True ∧ (0 : Nat) = (0 : Nat)) ∧ (True ∧ (0 : Nat) = (0 : Nat)) ∧
(True ∧ (0 : Nat) = (0 : Nat)) ∧ True) ∧ True ∧ ((111 : Nat) = (111 : Nat) ∧ (0 : Nat) = (0 : Nat) ∧ ax = ax ∧ ay = ay ∧ bx = bx ∧ by' = by' ∧ True) ∧ True ∧ ((111 : Nat) = (111 : Nat) ∧ (0 : Nat) = (0 : Nat) ∧ cx = cx ∧ cy = cy ∧ dx = dx ∧ dy = dy ∧
True) ∧ True ∧ ((100 : Nat) = (100 : Nat) ∧ (0 : Nat) = (0 : Nat) ∧ ax = ax ∧ ay = ay ∧ True) ∧ True ∧ ((100 : Nat) = (100 : Nat) ∧ (0 : Nat) = (0 : Nat) ∧ bx = bx ∧ by' = by' ∧ True) ∧ True ∧ ((100 : Nat) = (100 : Nat) ∧ (0 : Nat) = (0 : Nat) ∧ cx =
cx ∧ cy = cy ∧ True) ∧ True ∧ ((100 : Nat) = (100 : Nat) ∧ (0 : Nat) = (0 : Nat) ∧ dx = dx ∧ dy = dy ∧ True) ∧ True))))) ∧ ∀ (j : Nat), P1 → ((Go.Sx.fGt .f64 ax bx = true → (Go.Sx.fGt .f64 cx dx = true → (Go.Sx.fGt .f64 bx cx = true → R SV.ff) ∧
(Go.Sx.fGt .f64 bx cx = false → (Go.Sx.fLt .f64 ax dx = true → R SV.ff) ∧ (Go.Sx.fLt .f64 ax dx = false → ∃ (j : Nat), P2 ∧ ((True ∧ (0 : Nat) = (0 : Nat)) ∧ (True ∧ (0 : Nat) = (0 : Nat)) ∧ (True ∧ (0 : Nat) = (0 : Nat)) ∧ (True ∧ (0 : Nat) = (0 :
Nat)) ∧ (True ∧ (0 : Nat) = (0 : Nat)) ∧ (True ∧ (0 : Nat) = (0 : Nat)) ∧ True) ∧ True ∧ ((111 : Nat) = (111 : Nat) ∧ (0 : Nat) = (0 : Nat) ∧ ax = ax ∧ ay = ay ∧ bx = bx ∧ by' = by' ∧ True) ∧ True ∧ ((111 : Nat) = (111 : Nat) ∧ (0 : Nat) = (0 : Nat)
∧ cx = cx ∧ cy = cy ∧ dx = dx ∧ dy = dy ∧ True) ∧ True ∧ ((100 : Nat) = (100 : Nat) ∧ (0 : Nat) = (0 : Nat) ∧ ax = ax ∧ ay = ay ∧ True) ∧ True ∧ ((100 : Nat) = (100 : Nat) ∧ (0 : Nat) = (0 : Nat) ∧ bx = bx ∧ by' = by' ∧ True) ∧ True ∧ ((100 : Nat) =
(100 : Nat) ∧ (0 : Nat) = (0 : Nat) ∧ cx = cx ∧ cy = cy ∧ True) ∧ True ∧ ((100 : Nat) = (100 : Nat) ∧ (0 : Nat) = (0 : Nat) ∧ dx = dx ∧ dy = dy ∧ True) ∧ True))) ∧ (Go.Sx.fGt .f64 cx dx = false → (Go.Sx.fGt .f64 bx dx = true → R SV.ff) ∧ (Go.Sx.fGt
.f64 bx dx = false → (Go.Sx.fLt .f64 ax cx = true → R SV.ff) ∧ (Go.Sx.fLt .f64 ax cx = false → ∃ (j : Nat), P2 ∧ ((True ∧ (0 : Nat) = (0 : Nat)) ∧ (True ∧ (0 : Nat) = (0 : Nat)) ∧ (True ∧ (0 : Nat) = (0 : Nat)) ∧ (True ∧ (0 : Nat) = (0 : Nat)) ∧
(True ∧ (0 : Nat) = (0 : Nat)) ∧ (True ∧ (0 : Nat) = (0 : Nat)) ∧ True) ∧ True ∧ ((111 : Nat) = (111 : Nat) ∧ (0 : Nat) = (0 : Nat) ∧ ax = ax ∧ ay = ay ∧ bx = bx ∧ by' = by' ∧ True) ∧ True ∧ ((111 : Nat) = (111 : Nat) ∧ (0 : Nat) = (0 : Nat) ∧ cx =
cx ∧ cy = cy ∧ dx = dx ∧ dy = dy ∧ True) ∧ True ∧ ((100 : Nat) = (100 : Nat) ∧ (0 : Nat) = (0 : Nat) ∧ ax = ax ∧ ay = ay ∧ True) ∧ True ∧ ((100 : Nat) = (100 : Nat) ∧ (0 : Nat) = (0 : Nat) ∧ bx = bx ∧ by' = by' ∧ True) ∧ True ∧ ((100 : Nat) = (100 :
Nat) ∧ (0 : Nat) = (0 : Nat) ∧ cx = cx ∧ cy = cy ∧ True) ∧ True ∧ ((100 : Nat) = (100 : Nat) ∧ (0 : Nat) = (0 : Nat) ∧ dx = dx ∧ dy = dy ∧ True) ∧ True)))) ∧ (Go.Sx.fGt .f64 ax bx = false → (Go.Sx.fGt .f64 cx dx = true → (Go.Sx.fGt .f64 ax cx = true
→ R SV.ff) ∧ (Go.Sx.fGt .f64 ax cx = false → (Go.Sx.fLt .f64 bx dx = true → R SV.ff) ∧ (Go.Sx.fLt .f64 bx dx = false → ∃ (j : Nat), P2 ∧ ((True ∧ (0 : Nat) = (0 : Nat)) ∧ (True ∧ (0 : Nat) = (0 : Nat)) ∧ (True ∧ (0 : Nat) = (0 : Nat)) ∧ (True ∧ (0 :
Nat) = (0 : Nat)) ∧ (True ∧ (0 : Nat) = (0 : Nat)) ∧ (True ∧ (0 : Nat) = (0 : Nat)) ∧ True) ∧ True ∧ ((111 : Nat) = (111 : Nat) ∧ (0 : Nat) = (0 : Nat) ∧ ax = ax ∧ ay = ay ∧ bx = bx ∧ by' = by' ∧ True) ∧ True ∧ ((111 : Nat) = (111 : Nat) ∧ (0 : Nat)
= (0 : Nat) ∧ cx = cx ∧ cy = cy ∧ dx = dx ∧ dy = dy ∧ True) ∧ True ∧ ((100 : Nat) = (100 : Nat) ∧ (0 : Nat) = (0 : Nat) ∧ ax = ax ∧ ay = ay ∧ True) ∧ True ∧ ((100 : Nat) = (100 : Nat) ∧ (0 : Nat) = (0 : Nat) ∧ bx = bx ∧ by' = by' ∧ True) ∧ True ∧
((100 : Nat) = (100 : Nat) ∧ (0 : Nat) = (0 : Nat) ∧ cx = cx ∧ cy = cy ∧ True) ∧ True ∧ ((100 : Nat) = (100 : Nat) ∧ (0 : Nat) = (0 : Nat) ∧ dx = dx ∧ dy = dy ∧ True) ∧ True))) ∧ (Go.Sx.fGt .f64 cx dx = false → (Go.Sx.fGt .f64 ax dx = true → R SV.ff)
∧ (Go.Sx.fGt .f64 ax dx = false → (Go.Sx.fLt .f64 bx cx = true → R SV.ff) ∧ (Go.Sx.fLt .f64 bx cx = false → ∃ (j : Nat), P2 ∧ ((True ∧ (0 : Nat) = (0 : Nat)) ∧ (True ∧ (0 : Nat) = (0 : Nat)) ∧ (True ∧ (0 : Nat) = (0 : Nat)) ∧ (True ∧ (0 : Nat) = (0 :
Nat)) ∧ (True ∧ (0 : Nat) = (0 : Nat)) ∧ (True ∧ (0 : Nat) = (0 : Nat)) ∧ True) ∧ True ∧ ((111 : Nat) = (111 : Nat) ∧ (0 : Nat) = (0 : Nat) ∧ ax = ax ∧ ay = ay ∧ bx = bx ∧ by' = by' ∧ True) ∧ True ∧ ((111 : Nat) = (111 : Nat) ∧ (0 : Nat) = (0 : Nat)
∧ cx = cx ∧ cy = cy ∧ dx = dx ∧ dy = dy ∧ True) ∧ True ∧ ((100 : Nat) = (100 : Nat) ∧ (0 : Nat) = (0 : Nat) ∧ ax = ax ∧ ay = ay ∧ True) ∧ True ∧ ((100 : Nat) = (100 : Nat) ∧ (0 : Nat) = (0 : Nat) ∧ bx = bx ∧ by' = by' ∧ True) ∧ True ∧ ((100 : Nat) =
(100 : Nat) ∧ (0 : Nat) = (0 : Nat) ∧ cx = cx ∧ cy = cy ∧ True) ∧ True ∧ ((100 : Nat) = (100 : Nat) ∧ (0 : Nat) = (0 : Nat) ∧ dx = dx ∧ dy = dy ∧ True) ∧ True))))) ∧ ∀ (j : Nat), P2 → (((Go.Sx.fEq .f64 ax cx && (Go.Sx.fEq .f64 ay cy && true)) = true
→ R SV.tt) ∧ ((Go.Sx.fEq .f64 ax cx && (Go.Sx.fEq .f64 ay cy && true)) = false → ((Go.Sx.fEq .f64 ax dx && (Go.Sx.fEq .f64 ay dy && true)) = true → R SV.tt) ∧ ((Go.Sx.fEq .f64 ax dx && (Go.Sx.fEq .f64 ay dy && true)) = false → ((Go.Sx.fEq .f64 bx cx
&& (Go.Sx.fEq .f64 by' cy && true)) = true → R SV.tt) ∧ ((Go.Sx.fEq .f64 bx cx && (Go.Sx.fEq .f64 by' cy && true)) = false → ((Go.Sx.fEq .f64 bx dx && (Go.Sx.fEq .f64 by' dy && true)) = true → R SV.tt) ∧ ((Go.Sx.fEq .f64 bx dx && (Go.Sx.fEq .f64 by'
dy && true)) = false → ∃ (j : Nat), P3 ∧ ((True ∧ (0 : Nat) = (0 : Nat)) ∧ (True ∧ (0 : Nat) = (0 : Nat)) ∧ (True ∧ (0 : Nat) = (0 : Nat)) ∧ (True ∧ (0 : Nat) = (0 : Nat)) ∧ (True ∧ (0 : Nat) = (0 : Nat)) ∧ (True ∧ (0 : Nat) = (0 : Nat)) ∧ True) ∧
True ∧ ((111 : Nat) = (111 : Nat) ∧ (0 : Nat) = (0 : Nat) ∧ ax = ax ∧ ay = ay ∧ bx = bx ∧ by' = by' ∧ True) ∧ True ∧ ((111 : Nat) = (111 : Nat) ∧ (0 : Nat) = (0 : Nat) ∧ cx = cx ∧ cy = cy ∧ dx = dx ∧ dy = dy ∧ True) ∧ True ∧ ((100 : Nat) = (100 :
Nat) ∧ (0 : Nat) = (0 : Nat) ∧ ax = ax ∧ ay = ay ∧ True) ∧ True ∧ ((100 : Nat) = (100 : Nat) ∧ (0 : Nat) = (0 : Nat) ∧ bx = bx ∧ by' = by' ∧ True) ∧ True ∧ ((100 : Nat) = (100 : Nat) ∧ (0 : Nat) = (0 : Nat) ∧ cx = cx ∧ cy = cy ∧ True) ∧ True ∧ ((100
: Nat) = (100 : Nat) ∧ (0 : Nat) = (0 : Nat) ∧ dx = dx ∧ dy = dy ∧ True) ∧ True))))) ∧ ∀ (j : Nat), P3 → Go.Sx.fok BinOp.sub .f64 cx ax ∧ Go.Sx.fok BinOp.sub .f64 cy ay ∧ true = true ∧ Go.Sx.fok BinOp.sub .f64 bx ax ∧ Go.Sx.fok BinOp.sub .f64 by' ay
∧ true = true ∧ (Go.Sx.fok BinOp.mul .f64 (Go.Sx.fop BinOp.sub .f64 cx ax) (Go.Sx.fop BinOp.sub .f64 by' ay) ∧ Go.Sx.fok BinOp.mul .f64 (Go.Sx.fop BinOp.sub .f64 cy ay) (Go.Sx.fop BinOp.sub .f64 bx ax) ∧ Go.Sx.fok BinOp.sub .f64 (Go.Sx.fop BinOp.mul
.f64 (Go.Sx.fop BinOp.sub .f64 cx ax) (Go.Sx.fop BinOp.sub .f64 by' ay)) (Go.Sx.fop BinOp.mul .f64 (Go.Sx.fop BinOp.sub .f64 cy ay) (Go.Sx.fop BinOp.sub .f64 bx ax)) ∧ ∃ (j : Nat), P3 ∧ (Go.Sx.fop BinOp.sub .f64 cx ax = Go.Proofs.Tryz.Sx.D cx ax ∧
Go.Sx.fop BinOp.sub .f64 cy ay = Go.Proofs.Tryz.Sx.D cy ay ∧ Go.Sx.fop BinOp.sub .f64 bx ax = Go.Proofs.Tryz.Sx.D bx ax ∧ Go.Sx.fop BinOp.sub .f64 by' ay = Go.Proofs.Tryz.Sx.D by' ay ∧ Go.Sx.fop BinOp.sub .f64 (Go.Sx.fop BinOp.mul .f64 (Go.Sx.fop
BinOp.sub .f64 cx ax) (Go.Sx.fop BinOp.sub .f64 by' ay)) (Go.Sx.fop BinOp.mul .f64 (Go.Sx.fop BinOp.sub .f64 cy ay) (Go.Sx.fop BinOp.sub .f64 bx ax)) = Go.Proofs.Tryz.Sx.CR (Go.Proofs.Tryz.Sx.D cx ax) (Go.Proofs.Tryz.Sx.D cy ay) (Go.Proofs.Tryz.Sx.D
bx ax) (Go.Proofs.Tryz.Sx.D by' ay) ∧ (True ∧ (0 : Nat) = (0 : Nat)) ∧ (True ∧ (0 : Nat) = (0 : Nat)) ∧ (True ∧ (0 : Nat) = (0 : Nat)) ∧ (True ∧ (0 : Nat) = (0 : Nat)) ∧ (True ∧ (0 : Nat) = (0 : Nat)) ∧ (True ∧ (0 : Nat) = (0 : Nat)) ∧ True) ∧ True ∧
((111 : Nat) = (111 : Nat) ∧ (0 : Nat) = (0 : Nat) ∧ ax = ax ∧ ay = ay ∧ bx = bx ∧ by' = by' ∧ True) ∧ True ∧ ((111 : Nat) = (111 : Nat) ∧ (0 : Nat) = (0 : Nat) ∧ cx = cx ∧ cy = cy ∧ dx = dx ∧ dy = dy ∧ True) ∧ True ∧ ((100 : Nat) = (100 : Nat) ∧ (0
: Nat) = (0 : Nat) ∧ ax = ax ∧ ay = ay ∧ True) ∧ True ∧ ((100 : Nat) = (100 : Nat) ∧ (0 : Nat) = (0 : Nat) ∧ bx = bx ∧ by' = by' ∧ True) ∧ True ∧ ((100 : Nat) = (100 : Nat) ∧ (0 : Nat) = (0 : Nat) ∧ cx = cx ∧ cy = cy ∧ True) ∧ True ∧ ((100 : Nat) =
(100 : Nat) ∧ (0 : Nat) = (0 : Nat) ∧ dx = dx ∧ dy = dy ∧ True) ∧ True) ∧ ∀ (j : Nat), P3 → (((!(Go.Sx.fLt .f64 (Go.Proofs.Tryz.Sx.CR (Go.Proofs.Tryz.Sx.D cx ax) (Go.Proofs.Tryz.Sx.D cy ay) (Go.Proofs.Tryz.Sx.D bx ax) (Go.Proofs.Tryz.Sx.D by' ay)) (0
: Nat) || Go.Sx.fGt .f64 (Go.Proofs.Tryz.Sx.CR (Go.Proofs.Tryz.Sx.D cx ax) (Go.Proofs.Tryz.Sx.D cy ay) (Go.Proofs.Tryz.Sx.D bx ax) (Go.Proofs.Tryz.Sx.D by' ay)) (0 : Nat))) = true → Go.Sx.fok BinOp.sub .f64 cx ax ∧ Go.Sx.fok BinOp.sub .f64 cx bx ∧
((!Go.Sx.fLe .f64 (Go.Sx.fop BinOp.sub .f64 cx ax) (0 : Nat) == Go.Sx.fLe .f64 (Go.Sx.fop BinOp.sub .f64 cx bx) (0 : Nat)) = true → R SV.tt) ∧ ((!Go.Sx.fLe .f64 (Go.Sx.fop BinOp.sub .f64 cx ax) (0 : Nat) == Go.Sx.fLe .f64 (Go.Sx.fop BinOp.sub .f64 cx
bx) (0 : Nat)) = false → Go.Sx.fok BinOp.sub .f64 cy ay ∧ Go.Sx.fok BinOp.sub .f64 cy by' ∧ ((!!Go.Sx.fLe .f64 (Go.Sx.fop BinOp.sub .f64 cy ay) (0 : Nat) == Go.Sx.fLe .f64 (Go.Sx.fop BinOp.sub .f64 cy by') (0 : Nat)) = true → Go.Proofs.Tryz.Sx.Pts ax
ay bx by' cx cy (Go.Proofs.Tryz.Sx.wh ax) (Go.Proofs.Tryz.Sx.wh ay) (Go.Proofs.Tryz.Sx.wh bx) (Go.Proofs.Tryz.Sx.wh by') (Go.Proofs.Tryz.Sx.wh cx) (Go.Proofs.Tryz.Sx.wh cy) ∧ (decide (Go.Geo.On (Go.Proofs.Tryz.Sx.wh ax) (Go.Proofs.Tryz.Sx.wh ay)
(Go.Proofs.Tryz.Sx.wh bx) (Go.Proofs.Tryz.Sx.wh by') (Go.Proofs.Tryz.Sx.wh cx) (Go.Proofs.Tryz.Sx.wh cy)) = true → R SV.tt) ∧ (decide (Go.Geo.On (Go.Proofs.Tryz.Sx.wh ax) (Go.Proofs.Tryz.Sx.wh ay) (Go.Proofs.Tryz.Sx.wh bx) (Go.Proofs.Tryz.Sx.wh by')
(Go.Proofs.Tryz.Sx.wh cx) (Go.Proofs.Tryz.Sx.wh cy)) = false → Go.Proofs.Tryz.Sx.Pts ax ay bx by' dx dy (Go.Proofs.Tryz.Sx.wh ax) (Go.Proofs.Tryz.Sx.wh ay) (Go.Proofs.Tryz.Sx.wh bx) (Go.Proofs.Tryz.Sx.wh by') (Go.Proofs.Tryz.Sx.wh dx)
(Go.Proofs.Tryz.Sx.wh dy) ∧ R (SV.bool (decide (Go.Geo.On (Go.Proofs.Tryz.Sx.wh ax) (Go.Proofs.Tryz.Sx.wh ay) (Go.Proofs.Tryz.Sx.wh bx) (Go.Proofs.Tryz.Sx.wh by') (Go.Proofs.Tryz.Sx.wh dx) (Go.Proofs.Tryz.Sx.wh dy)))))) ∧ ((!!Go.Sx.fLe .f64
(Go.Sx.fop BinOp.sub .f64 cy ay) (0 : Nat) == Go.Sx.fLe .f64 (Go.Sx.fop BinOp.sub .f64 cy by') (0 : Nat)) = false → R SV.tt))) ∧ ((!(Go.Sx.fLt .f64 (Go.Proofs.Tryz.Sx.CR (Go.Proofs.Tryz.Sx.D cx ax) (Go.Proofs.Tryz.Sx.D cy ay) (Go.Proofs.Tryz.Sx.D bx
ax) (Go.Proofs.Tryz.Sx.D by' ay)) (0 : Nat) || Go.Sx.fGt .f64 (Go.Proofs.Tryz.Sx.CR (Go.Proofs.Tryz.Sx.D cx ax) (Go.Proofs.Tryz.Sx.D cy ay) (Go.Proofs.Tryz.Sx.D bx ax) (Go.Proofs.Tryz.Sx.D by' ay)) (0 : Nat))) = false → ∃ (j : Nat), P4 ∧
(Go.Proofs.Tryz.Sx.D cx ax = Go.Proofs.Tryz.Sx.D cx ax ∧ Go.Proofs.Tryz.Sx.D cy ay = Go.Proofs.Tryz.Sx.D cy ay ∧ Go.Proofs.Tryz.Sx.D bx ax = Go.Proofs.Tryz.Sx.D bx ax ∧ Go.Proofs.Tryz.Sx.D by' ay = Go.Proofs.Tryz.Sx.D by' ay ∧ Go.Proofs.Tryz.Sx.CR
(Go.Proofs.Tryz.Sx.D cx ax) (Go.Proofs.Tryz.Sx.D cy ay) (Go.Proofs.Tryz.Sx.D bx ax) (Go.Proofs.Tryz.Sx.D by' ay) = Go.Proofs.Tryz.Sx.CR (Go.Proofs.Tryz.Sx.D cx ax) (Go.Proofs.Tryz.Sx.D cy ay) (Go.Proofs.Tryz.Sx.D bx ax) (Go.Proofs.Tryz.Sx.D by' ay) ∧
(True ∧ (0 : Nat) = (0 : Nat)) ∧ (True ∧ (0 : Nat) = (0 : Nat)) ∧ (True ∧ (0 : Nat) = (0 : Nat)) ∧ (True ∧ (0 : Nat) = (0 : Nat)) ∧ (True ∧ (0 : Nat) = (0 : Nat)) ∧ (True ∧ (0 : Nat) = (0 : Nat)) ∧ True) ∧ True ∧ ((111 : Nat) = (111 : Nat) ∧ (0 :
Nat) = (0 : Nat) ∧ ax = ax ∧ ay = ay ∧ bx = bx ∧ by' = by' ∧ True) ∧ True ∧ ((111 : Nat) = (111 : Nat) ∧ (0 : Nat) = (0 : Nat) ∧ cx = cx ∧ cy = cy ∧ dx = dx ∧ dy = dy ∧ True) ∧ True ∧ ((100 : Nat) = (100 : Nat) ∧ (0 : Nat) = (0 : Nat) ∧ ax = ax ∧ ay
= ay ∧ True) ∧ True ∧ ((100 : Nat) = (100 : Nat) ∧ (0 : Nat) = (0 : Nat) ∧ bx = bx ∧ by' = by' ∧ True) ∧ True ∧ ((100 : Nat) = (100 : Nat) ∧ (0 : Nat) = (0 : Nat) ∧ cx = cx ∧ cy = cy ∧ True) ∧ True ∧ ((100 : Nat) = (100 : Nat) ∧ (0 : Nat) = (0 : Nat)
∧ dx = dx ∧ dy = dy ∧ True) ∧ True)) ∧ ∀ (j : Nat), P4 → Go.Sx.fok BinOp.sub .f64 dx cx ∧ Go.Sx.fok BinOp.sub .f64 dy cy ∧ true = true ∧ Go.Sx.fok BinOp.mul .f64 (Go.Proofs.Tryz.Sx.D cx ax) (Go.Sx.fop BinOp.sub .f64 dy cy) ∧ Go.Sx.fok BinOp.mul .f64
(Go.Proofs.Tryz.Sx.D cy ay) (Go.Sx.fop BinOp.sub .f64 dx cx) ∧ Go.Sx.fok BinOp.sub .f64 (Go.Sx.fop BinOp.mul .f64 (Go.Proofs.Tryz.Sx.D cx ax) (Go.Sx.fop BinOp.sub .f64 dy cy)) (Go.Sx.fop BinOp.mul .f64 (Go.Proofs.Tryz.Sx.D cy ay) (Go.Sx.fop BinOp.sub
.f64 dx cx)) ∧ (Go.Sx.fok BinOp.mul .f64 (Go.Proofs.Tryz.Sx.D bx ax) (Go.Sx.fop BinOp.sub .f64 dy cy) ∧ Go.Sx.fok BinOp.mul .f64 (Go.Proofs.Tryz.Sx.D by' ay) (Go.Sx.fop BinOp.sub .f64 dx cx) ∧ Go.Sx.fok BinOp.sub .f64 (Go.Sx.fop BinOp.mul .f64
(Go.Proofs.Tryz.Sx.D bx ax) (Go.Sx.fop BinOp.sub .f64 dy cy)) (Go.Sx.fop BinOp.mul .f64 (Go.Proofs.Tryz.Sx.D by' ay) (Go.Sx.fop BinOp.sub .f64 dx cx)) ∧ ∃ (j : Nat), P4 ∧ (Go.Proofs.Tryz.Sx.CR (Go.Proofs.Tryz.Sx.D cx ax) (Go.Proofs.Tryz.Sx.D cy ay)
(Go.Proofs.Tryz.Sx.D bx ax) (Go.Proofs.Tryz.Sx.D by' ay) = Go.Proofs.Tryz.Sx.CR (Go.Proofs.Tryz.Sx.D cx ax) (Go.Proofs.Tryz.Sx.D cy ay) (Go.Proofs.Tryz.Sx.D bx ax) (Go.Proofs.Tryz.Sx.D by' ay) ∧ Go.Sx.fop BinOp.sub .f64 (Go.Sx.fop BinOp.mul .f64
(Go.Proofs.Tryz.Sx.D cx ax) (Go.Sx.fop BinOp.sub .f64 dy cy)) (Go.Sx.fop BinOp.mul .f64 (Go.Proofs.Tryz.Sx.D cy ay) (Go.Sx.fop BinOp.sub .f64 dx cx)) = Go.Proofs.Tryz.Sx.CR (Go.Proofs.Tryz.Sx.D cx ax) (Go.Proofs.Tryz.Sx.D cy ay) (Go.Proofs.Tryz.Sx.D
dx cx) (Go.Proofs.Tryz.Sx.D dy cy) ∧ Go.Sx.fop BinOp.sub .f64 (Go.Sx.fop BinOp.mul .f64 (Go.Proofs.Tryz.Sx.D bx ax) (Go.Sx.fop BinOp.sub .f64 dy cy)) (Go.Sx.fop BinOp.mul .f64 (Go.Proofs.Tryz.Sx.D by' ay) (Go.Sx.fop BinOp.sub .f64 dx cx)) =
Go.Proofs.Tryz.Sx.CR (Go.Proofs.Tryz.Sx.D bx ax) (Go.Proofs.Tryz.Sx.D by' ay) (Go.Proofs.Tryz.Sx.D dx cx) (Go.Proofs.Tryz.Sx.D dy cy) ∧ (True ∧ (0 : Nat) = (0 : Nat)) ∧ (True ∧ (0 : Nat) = (0 : Nat)) ∧ (True ∧ (0 : Nat) = (0 : Nat)) ∧ (True ∧ (0 :
Nat) = (0 : Nat)) ∧ (True ∧ (0 : Nat) = (0 : Nat)) ∧ (True ∧ (0 : Nat) = (0 : Nat)) ∧ True) ∧ True ∧ ((111 : Nat) = (111 : Nat) ∧ (0 : Nat) = (0 : Nat) ∧ ax = ax ∧ ay = ay ∧ bx = bx ∧ by' = by' ∧ True) ∧ True ∧ ((111 : Nat) = (111 : Nat) ∧ (0 : Nat)
= (0 : Nat) ∧ cx = cx ∧ cy = cy ∧ dx = dx ∧ dy = dy ∧ True) ∧ True ∧ ((100 : Nat) = (100 : Nat) ∧ (0 : Nat) = (0 : Nat) ∧ ax = ax ∧ ay = ay ∧ True) ∧ True ∧ ((100 : Nat) = (100 : Nat) ∧ (0 : Nat) = (0 : Nat) ∧ bx = bx ∧ by' = by' ∧ True) ∧ True ∧
((100 : Nat) = (100 : Nat) ∧ (0 : Nat) = (0 : Nat) ∧ cx = cx ∧ cy = cy ∧ True) ∧ True ∧ ((100 : Nat) = (100 : Nat) ∧ (0 : Nat) = (0 : Nat) ∧ dx = dx ∧ dy = dy ∧ True) ∧ True) ∧ ∀ (j : Nat), P4 → (((!(Go.Sx.fLt .f64 (Go.Proofs.Tryz.Sx.CR
(Go.Proofs.Tryz.Sx.D bx ax) (Go.Proofs.Tryz.Sx.D by' ay) (Go.Proofs.Tryz.Sx.D dx cx) (Go.Proofs.Tryz.Sx.D dy cy)) (0 : Nat) || Go.Sx.fGt .f64 (Go.Proofs.Tryz.Sx.CR (Go.Proofs.Tryz.Sx.D bx ax) (Go.Proofs.Tryz.Sx.D by' ay) (Go.Proofs.Tryz.Sx.D dx cx)
(Go.Proofs.Tryz.Sx.D dy cy)) (0 : Nat))) = true → R SV.ff) ∧ ((!(Go.Sx.fLt .f64 (Go.Proofs.Tryz.Sx.CR (Go.Proofs.Tryz.Sx.D bx ax) (Go.Proofs.Tryz.Sx.D by' ay) (Go.Proofs.Tryz.Sx.D dx cx) (Go.Proofs.Tryz.Sx.D dy cy)) (0 : Nat) || Go.Sx.fGt .f64
(Go.Proofs.Tryz.Sx.CR (Go.Proofs.Tryz.Sx.D bx ax) (Go.Proofs.Tryz.Sx.D by' ay) (Go.Proofs.Tryz.Sx.D dx cx) (Go.Proofs.Tryz.Sx.D dy cy)) (0 : Nat))) = false → ∃ (j : Nat), P5 ∧ (Go.Proofs.Tryz.Sx.CR (Go.Proofs.Tryz.Sx.D cx ax) (Go.Proofs.Tryz.Sx.D cy
ay) (Go.Proofs.Tryz.Sx.D bx ax) (Go.Proofs.Tryz.Sx.D by' ay) = Go.Proofs.Tryz.Sx.CR (Go.Proofs.Tryz.Sx.D cx ax) (Go.Proofs.Tryz.Sx.D cy ay) (Go.Proofs.Tryz.Sx.D bx ax) (Go.Proofs.Tryz.Sx.D by' ay) ∧ Go.Proofs.Tryz.Sx.CR (Go.Proofs.Tryz.Sx.D cx ax)
(Go.Proofs.Tryz.Sx.D cy ay) (Go.Proofs.Tryz.Sx.D dx cx) (Go.Proofs.Tryz.Sx.D dy cy) = Go.Proofs.Tryz.Sx.CR (Go.Proofs.Tryz.Sx.D cx ax) (Go.Proofs.Tryz.Sx.D cy ay) (Go.Proofs.Tryz.Sx.D dx cx) (Go.Proofs.Tryz.Sx.D dy cy) ∧ Go.Proofs.Tryz.Sx.CR
(Go.Proofs.Tryz.Sx.D bx ax) (Go.Proofs.Tryz.Sx.D by' ay) (Go.Proofs.Tryz.Sx.D dx cx) (Go.Proofs.Tryz.Sx.D dy cy) = Go.Proofs.Tryz.Sx.CR (Go.Proofs.Tryz.Sx.D bx ax) (Go.Proofs.Tryz.Sx.D by' ay) (Go.Proofs.Tryz.Sx.D dx cx) (Go.Proofs.Tryz.Sx.D dy cy) ∧
(True ∧ (0 : Nat) = (0 : Nat)) ∧ (True ∧ (0 : Nat) = (0 : Nat)) ∧ (True ∧ (0 : Nat) = (0 : Nat)) ∧ (True ∧ (0 : Nat) = (0 : Nat)) ∧ (True ∧ (0 : Nat) = (0 : Nat)) ∧ (True ∧ (0 : Nat) = (0 : Nat)) ∧ True) ∧ True ∧ ((111 : Nat) = (111 : Nat) ∧ (0 :
Nat) = (0 : Nat) ∧ ax = ax ∧ ay = ay ∧ bx = bx ∧ by' = by' ∧ True) ∧ True ∧ ((111 : Nat) = (111 : Nat) ∧ (0 : Nat) = (0 : Nat) ∧ cx = cx ∧ cy = cy ∧ dx = dx ∧ dy = dy ∧ True) ∧ True ∧ ((100 : Nat) = (100 : Nat) ∧ (0 : Nat) = (0 : Nat) ∧ ax = ax ∧ ay
= ay ∧ True) ∧ True ∧ ((100 : Nat) = (100 : Nat) ∧ (0 : Nat) = (0 : Nat) ∧ bx = bx ∧ by' = by' ∧ True) ∧ True ∧ ((100 : Nat) = (100 : Nat) ∧ (0 : Nat) = (0 : Nat) ∧ cx = cx ∧ cy = cy ∧ True) ∧ True ∧ ((100 : Nat) = (100 : Nat) ∧ (0 : Nat) = (0 : Nat)
∧ dx = dx ∧ dy = dy ∧ True) ∧ True)) ∧ ∀ (j : Nat), P5 → ∀ (r : Nat), Go.Sx.QuoRel .f64 (4607182418800017408 : Nat) (Go.Proofs.Tryz.Sx.CR (Go.Proofs.Tryz.Sx.D bx ax) (Go.Proofs.Tryz.Sx.D by' ay) (Go.Proofs.Tryz.Sx.D dx cx) (Go.Proofs.Tryz.Sx.D dy
cy)) r → Go.Sx.fok BinOp.mul .f64 (Go.Proofs.Tryz.Sx.CR (Go.Proofs.Tryz.Sx.D cx ax) (Go.Proofs.Tryz.Sx.D cy ay) (Go.Proofs.Tryz.Sx.D dx cx) (Go.Proofs.Tryz.Sx.D dy cy)) r ∧ Go.Sx.fok BinOp.mul .f64 (Go.Proofs.Tryz.Sx.CR (Go.Proofs.Tryz.Sx.D cx ax)
(Go.Proofs.Tryz.Sx.D cy ay) (Go.Proofs.Tryz.Sx.D bx ax) (Go.Proofs.Tryz.Sx.D by' ay)) r ∧ (Go.Sx.fGe .f64 (Go.Sx.fop BinOp.mul .f64 (Go.Proofs.Tryz.Sx.CR (Go.Proofs.Tryz.Sx.D cx ax) (Go.Proofs.Tryz.Sx.D cy ay) (Go.Proofs.Tryz.Sx.D dx cx)
(Go.Proofs.Tryz.Sx.D dy cy)) r) (0 : Nat) = true → (Go.Sx.fLe .f64 (Go.Sx.fop BinOp.mul .f64 (Go.Proofs.Tryz.Sx.CR (Go.Proofs.Tryz.Sx.D cx ax) (Go.Proofs.Tryz.Sx.D cy ay) (Go.Proofs.Tryz.Sx.D dx cx) (Go.Proofs.Tryz.Sx.D dy cy)) r)
(4607182418800017408 : Nat) = true → (Go.Sx.fGe .f64 (Go.Sx.fop BinOp.mul .f64 (Go.Proofs.Tryz.Sx.CR (Go.Proofs.Tryz.Sx.D cx ax) (Go.Proofs.Tryz.Sx.D cy ay) (Go.Proofs.Tryz.Sx.D bx ax) (Go.Proofs.Tryz.Sx.D by' ay)) r) (0 : Nat) = true → ((!Go.Sx.fLe
.f64 (Go.Sx.fop BinOp.mul .f64 (Go.Proofs.Tryz.Sx.CR (Go.Proofs.Tryz.Sx.D cx ax) (Go.Proofs.Tryz.Sx.D cy ay) (Go.Proofs.Tryz.Sx.D bx ax) (Go.Proofs.Tryz.Sx.D by' ay)) r) (4607182418800017408 : Nat)) = true → R SV.ff) ∧ ((!Go.Sx.fLe .f64 (Go.Sx.fop
BinOp.mul .f64 (Go.Proofs.Tryz.Sx.CR (Go.Proofs.Tryz.Sx.D cx ax) (Go.Proofs.Tryz.Sx.D cy ay) (Go.Proofs.Tryz.Sx.D bx ax) (Go.Proofs.Tryz.Sx.D by' ay)) r) (4607182418800017408 : Nat)) = false → R SV.tt)) ∧ (Go.Sx.fGe .f64 (Go.Sx.fop BinOp.mul .f64
(Go.Proofs.Tryz.Sx.CR (Go.Proofs.Tryz.Sx.D cx ax) (Go.Proofs.Tryz.Sx.D cy ay) (Go.Proofs.Tryz.Sx.D bx ax) (Go.Proofs.Tryz.Sx.D by' ay)) r) (0 : Nat) = false → R SV.ff)) ∧ (Go.Sx.fLe .f64 (Go.Sx.fop BinOp.mul .f64 (Go.Proofs.Tryz.Sx.CR
(Go.Proofs.Tryz.Sx.D cx ax) (Go.Proofs.Tryz.Sx.D cy ay) (Go.Proofs.Tryz.Sx.D dx cx) (Go.Proofs.Tryz.Sx.D dy cy)) r) (4607182418800017408 : Nat) = false → R SV.ff)) ∧ (Go.Sx.fGe .f64 (Go.Sx.fop BinOp.mul .f64 (Go.Proofs.Tryz.Sx.CR (Go.Proofs.Tryz.Sx.D
cx ax) (Go.Proofs.Tryz.Sx.D cy ay) (Go.Proofs.Tryz.Sx.D dx cx) (Go.Proofs.Tryz.Sx.D dy cy)) r) (0 : Nat) = false → R SV.ff)) := by kernel_rfl

theorem sub_w {x y : Nat} {a b : Int} (hx : FI x a) (hy : FI y b) (ha : small a) (hb : small b) : fok .sub .f64 x y ∧ FI (fop .sub .f64 x y) (a - b) ∧ (a - b).natAbs ≤ 2097152 := by
  have := sub_I hx hy (by unfold small at ha; omega) (by unfold small at hb; omega)
  exact ⟨this.1, this.2, by unfold small at ha hb; omega⟩
theorem cr_w {x y z w : Nat} {a b c d : Int} (hx : FI x a) (hy : FI y b) (hz : FI z c) (hw : FI w d) (ha : a.natAbs ≤ 2097152) (hb : b.natAbs ≤ 2097152) (hc : c.natAbs ≤ 2097152) (hd : d.natAbs ≤ 2097152) :
    fok .mul .f64 x w ∧ fok .mul .f64 y z ∧ fok .sub .f64 (fop .mul .f64 x w) (fop .mul .f64 y z) ∧ FI (CR x y z w) (xp a b c d) ∧ (xp a b c d).natAbs ≤ 2 ^ 44 := by
  have b1 := mul_bound ha hd
  have b2 := mul_bound hb hc
  obtain ⟨m1, m2⟩ := mul_of hx hw (by omega)
  obtain ⟨m3, m4⟩ := mul_of hy hz (by omega)
  obtain ⟨r, h1, h2⟩ := FI_sub m2 m4 (by omega)
  obtain ⟨h3, h4⟩ := fop_of (op := .sub) h1
  refine ⟨m1, m3, h3, ?_, ?_⟩
  · show FI (fop .sub .f64 (fop .mul .f64 x w) (fop .mul .f64 y z)) _
    rw [h4]; exact h2
  · unfold xp; omega
theorem zt {v : Nat} {n : Int} (h : FI v n) : (!(fLt .f64 v 0 || fGt .f64 v 0)) = decide (n = 0) := by
  rw [flt_I h zero_FI, fgt_I h zero_FI]
  grind
theorem le0 {v : Nat} {n : Int} (h : FI v n) : fLe .f64 v 0 = decide (n ≤ 0) := fle_I h zero_FI

theorem isec_run {ax ay bx by' cx cy dx dy : Nat} {a1 a2 b1 b2 c1 c2 d1 d2 : Int} (H : P8 ax ay bx by' cx cy dx dy a1 a2 b1 b2 c1 c2 d1 d2) :
    ∃ A B, runA GIS 0 A B (codeOf Tryz.f210) (init 300 [.agg [.flt .f64 ax, .flt .f64 ay, .flt .f64 bx, .flt .f64 by'], .agg [.flt .f64 cx, .flt .f64 cy, .flt .f64 dx, .flt .f64 dy]] [] 0) (endK GIS.E.T Tryz.f210.results.toList fun _ v => eqv v (.bool (decide (Isec a1 a2 b1 b2 c1 c2 d1 d2)))) := by
  refine ⟨_, _, (vc_isec _ (yMeet a2 b2 c2 d2) (yMeet a2 b2 c2 d2 ∧ yMeet a1 b1 c1 d1) (yMeet a2 b2 c2 d2 ∧ yMeet a1 b1 c1 d1 ∧ noEnds a1 a2 b1 b2 c1 c2 d1 d2)
    (yMeet a2 b2 c2 d2 ∧ yMeet a1 b1 c1 d1 ∧ noEnds a1 a2 b1 b2 c1 c2 d1 d2 ∧ xp (c1 - a1) (c2 - a2) (b1 - a1) (b2 - a2) ≠ 0)
    (yMeet a2 b2 c2 d2 ∧ yMeet a1 b1 c1 d1 ∧ noEnds a1 a2 b1 b2 c1 c2 d1 d2 ∧ xp (c1 - a1) (c2 - a2) (b1 - a1) (b2 - a2) ≠ 0 ∧ xp (b1 - a1) (b2 - a2) (d1 - c1) (d2 - c2) ≠ 0) ax ay bx by' cx cy dx dy).mpr ?_⟩
  obtain ⟨⟨sa1, sa2, sb1, sb2⟩, sc1, sc2, sd1, sd2⟩ := H.s
  obtain ⟨k1, f1, n1⟩ := sub_w H.cx H.ax sc1 sa1
  obtain ⟨k2, f2, n2⟩ := sub_w H.cy H.ay sc2 sa2
  obtain ⟨k3, f3, n3⟩ := sub_w H.bx H.ax sb1 sa1
  obtain ⟨k4, f4, n4⟩ := sub_w H.by' H.ay sb2 sa2
  obtain ⟨k5, f5, n5⟩ := sub_w H.dx H.cx sd1 sc1
  obtain ⟨k6, f6, n6⟩ := sub_w H.dy H.cy sd2 sc2
  obtain ⟨k7, f7, _⟩ := sub_w H.cx H.bx sc1 sb1
  obtain ⟨k8, f8, _⟩ := sub_w H.cy H.by' sc2 sb2
  obtain ⟨u1, u2, u3, fu, nu⟩ := cr_w f1 f2 f3 f4 n1 n2 n3 n4
  obtain ⟨t1, t2, t3, ft, nt⟩ := cr_w f1 f2 f5 f6 n1 n2 n5 n6
  obtain ⟨w1, w2, w3, fw, nw⟩ := cr_w f3 f4 f5 f6 n3 n4 n5 n6
  simp only [eqv]
  refine ⟨⟨trivial, 0, trivial, by simp⟩, fun _ _ => ⟨?_, fun _ h1 => ⟨?_, fun _ h2 => ⟨?_, fun _ h3 => ?_⟩⟩⟩⟩
  · rw [fgt_I H.ay H.by', fgt_I H.cy H.dy, fgt_I H.by' H.cy, flt_I H.ay H.dy, fgt_I H.by' H.dy, flt_I H.ay H.cy, fgt_I H.ay H.cy, flt_I H.by' H.dy, fgt_I H.ay H.dy, flt_I H.by' H.cy]
    clear fu ft fw nu nt nw u1 u2 u3 t1 t2 t3 w1 w2 w3 f1 f2 f3 f4 f5 f6 f7 f8 k1 k2 k3 k4 k5 k6 k7 k8 n1 n2 n3 n4 n5 n6
    repeat' (first | (intro h) | (refine And.intro ?_ ?_))
    all_goals simp only [decide_eq_true_eq, decide_eq_false_iff_not, Int.not_lt] at *
    all_goals first
      | (intro hh; have := hh.1; unfold yMeet at this; omega)
      | exact ⟨0, by unfold yMeet; omega, by simp⟩
  · rw [fgt_I H.ax H.bx, fgt_I H.cx H.dx, fgt_I H.bx H.cx, flt_I H.ax H.dx, fgt_I H.bx H.dx, flt_I H.ax H.cx, fgt_I H.ax H.cx, flt_I H.bx H.dx, fgt_I H.ax H.dx, flt_I H.bx H.cx]
    clear fu ft fw nu nt nw u1 u2 u3 t1 t2 t3 w1 w2 w3 f1 f2 f3 f4 f5 f6 f7 f8 k1 k2 k3 k4 k5 k6 k7 k8 n1 n2 n3 n4 n5 n6
    repeat' (first | (intro h) | (refine And.intro ?_ ?_))
    all_goals simp only [decide_eq_true_eq, decide_eq_false_iff_not, Int.not_lt] at *
    all_goals first
      | (intro hh; have := hh.2.1; unfold yMeet at this; omega)
      | exact ⟨0, ⟨h1, by unfold yMeet; omega⟩, by simp⟩
  · rw [feq_I H.ax H.cx, feq_I H.ay H.cy, feq_I H.ax H.dx, feq_I H.ay H.dy, feq_I H.bx H.cx, feq_I H.by' H.cy, feq_I H.bx H.dx, feq_I H.by' H.dy]
    clear fu ft fw nu nt nw u1 u2 u3 t1 t2 t3 w1 w2 w3 f1 f2 f3 f4 f5 f6 f7 f8 k1 k2 k3 k4 k5 k6 k7 k8 n1 n2 n3 n4 n5 n6
    refine ⟨fun e => ?_, fun e1 => ⟨fun e => ?_, fun e2 => ⟨fun e => ?_, fun e3 => ⟨fun e => ?_, fun e4 => ⟨0, ⟨h2.1, h2.2, fun hh => ?_⟩, by simp⟩⟩⟩⟩⟩
    · exact decide_eq_true ⟨h2.1, h2.2, .inl fun hn => hn (.inl (by simpa using e))⟩
    · exact decide_eq_true ⟨h2.1, h2.2, .inl fun hn => hn (.inr (.inl (by simpa using e)))⟩
    · exact decide_eq_true ⟨h2.1, h2.2, .inl fun hn => hn (.inr (.inr (.inl (by simpa using e))))⟩
    · exact decide_eq_true ⟨h2.1, h2.2, .inl fun hn => hn (.inr (.inr (.inr (by simpa using e))))⟩
    · simp at e1 e2 e3 e4
      rcases hh with ⟨g1, g2⟩ | ⟨g1, g2⟩ | ⟨g1, g2⟩ | ⟨g1, g2⟩
      · exact e1 g1 g2
      · exact e2 g1 g2
      · exact e3 g1 g2
      · exact e4 g1 g2
  · simp only [k1, k2, k3, k4, k5, k6, k7, k8, u1, u2, u3, t1, t2, t3, w1, w2, w3, true_and, zt fu, zt fw, le0 f1, le0 f2, le0 f7, le0 f8]
    refine ⟨⟨0, h3, by simp⟩, fun _ h3 => ⟨⟨fun h0 => ?_, fun h0 => ?_⟩, fun _ h4 => ⟨?_, fun _ h4 => ⟨⟨fun h0 => ?_, fun h0 => ?_⟩, fun _ h5 => ?_⟩⟩⟩⟩
    · have hu := of_decide_eq_true h0
      rw [wh_FI H.ax, wh_FI H.ay, wh_FI H.bx, wh_FI H.by', wh_FI H.cx, wh_FI H.cy, wh_FI H.dx, wh_FI H.dy]
      have hp1 : Pts ax ay bx by' cx cy a1 a2 b1 b2 c1 c2 := by
        unfold small at *
        exact ⟨H.ax, H.ay, H.bx, H.by', H.cx, H.cy, by omega, by omega, by omega, by omega, by omega, by omega⟩
      have hp2 : Pts ax ay bx by' dx dy a1 a2 b1 b2 d1 d2 := by
        unfold small at *
        exact ⟨H.ax, H.ay, H.bx, H.by', H.dx, H.dy, by omega, by omega, by omega, by omega, by omega, by omega⟩
      have hh : ∀ a b c : Int, ((!(decide (c - a ≤ 0) == decide (c - b ≤ 0))) = true ↔ half a b c) := by
        intro a b c
        by_cases g1 : c - a ≤ 0 <;> by_cases g2 : c - b ≤ 0 <;> simp [g1, g2] <;> (unfold half; omega)
      refine ⟨fun e => decide_eq_true ⟨h3.1, h3.2.1, .inr (.inl ⟨hu, .inl ((hh _ _ _).1 e)⟩)⟩, fun e => ⟨fun e' => ⟨hp1, fun o => decide_eq_true ⟨h3.1, h3.2.1, .inr (.inl ⟨hu, .inr (.inr (.inl (of_decide_eq_true o)))⟩)⟩, fun o => ⟨hp2, ?_⟩⟩, fun e' => decide_eq_true ⟨h3.1, h3.2.1, .inr (.inl ⟨hu, .inr (.inl ((hh _ _ _).1 ?_))⟩)⟩⟩⟩
      · refine decide_eq_decide.2 ⟨fun od => ⟨h3.1, h3.2.1, .inr (.inl ⟨hu, .inr (.inr (.inr od))⟩)⟩, fun hi => ?_⟩
        rcases hi.2.2 with g | ⟨_, g | g | g | g⟩ | g
        · exact absurd h3.2.2 g
        · rw [(hh _ _ _).2 g] at e; cases e
        · rw [(hh _ _ _).2 g] at e'; cases e'
        · exact absurd g (of_decide_eq_false o)
        · exact g
        · exact absurd hu g.1
      · revert e'
        cases (decide (c2 - a2 ≤ 0) == decide (c2 - b2 ≤ 0)) <;> simp
    · exact ⟨0, ⟨h3.1, h3.2.1, h3.2.2, of_decide_eq_false h0⟩, trivial⟩
    · exact ⟨0, h4, trivial⟩
    · have hw := of_decide_eq_true h0
      refine decide_eq_false fun hi => ?_
      rcases hi.2.2 with g | g | g
      · exact g h4.2.2.1
      · exact h4.2.2.2 g.1
      · exact g.2.1 hw
    · exact ⟨0, ⟨h4.1, h4.2.1, h4.2.2.1, h4.2.2.2, of_decide_eq_false h0⟩, trivial⟩
    · intro r hr
      obtain ⟨x1, x2, x3⟩ := tu ft fw h5.2.2.2.2 nt nw hr
      obtain ⟨y1, y2, y3⟩ := tu fu fw h5.2.2.2.2 nu nw hr
      refine ⟨x1, y1, ?_⟩
      rw [x2, y2]
      have bad : ¬ (0 ≤ xp (c1 - a1) (c2 - a2) (d1 - c1) (d2 - c2) * xp (b1 - a1) (b2 - a2) (d1 - c1) (d2 - c2) ∧ (xp (c1 - a1) (c2 - a2) (d1 - c1) (d2 - c2)).natAbs ≤ (xp (b1 - a1) (b2 - a2) (d1 - c1) (d2 - c2)).natAbs ∧
          0 ≤ xp (c1 - a1) (c2 - a2) (b1 - a1) (b2 - a2) * xp (b1 - a1) (b2 - a2) (d1 - c1) (d2 - c2) ∧ (xp (c1 - a1) (c2 - a2) (b1 - a1) (b2 - a2)).natAbs ≤ (xp (b1 - a1) (b2 - a2) (d1 - c1) (d2 - c2)).natAbs) → decide (Isec a1 a2 b1 b2 c1 c2 d1 d2) = false := by
        intro hb
        refine decide_eq_false fun hi => ?_
        rcases hi.2.2 with g | g | g
        · exact g h5.2.2.1
        · exact h5.2.2.2.1 g.1
        · exact hb g.2.2
      refine ⟨fun g1 => ⟨fun g2 => ⟨fun g3 => ⟨fun g4 => ?_, fun g4 => ?_⟩, fun g3 => ?_⟩, fun g2 => ?_⟩, fun g1 => ?_⟩
      · have g3 := of_decide_eq_true g3
        rw [y3 g3] at g4
        exact bad fun hb => by simp [hb.2.2.2] at g4
      · have g3 := of_decide_eq_true g3
        have g1 := of_decide_eq_true g1
        rw [y3 g3] at g4
        rw [x3 g1] at g2
        refine decide_eq_true ⟨h5.1, h5.2.1, .inr (.inr ⟨h5.2.2.2.1, h5.2.2.2.2, g1, of_decide_eq_true g2, g3, by simpa using g4⟩)⟩
      · exact bad fun hb => of_decide_eq_false g3 hb.2.2.1
      · have g1 := of_decide_eq_true g1
        rw [x3 g1] at g2
        exact bad fun hb => of_decide_eq_false g2 hb.2.1
      · exact bad fun hb => of_decide_eq_false g1 hb.1

noncomputable def isecF : PF := fun
  | [.agg [.flt .f64 ax, .flt .f64 ay, .flt .f64 bx, .flt .f64 by'], .agg [.flt .f64 cx, .flt .f64 cy, .flt .f64 dx, .flt .f64 dy]] =>
    some (.bool (decide (Isec (wh ax) (wh ay) (wh bx) (wh by') (wh cx) (wh cy) (wh dx) (wh dy))), some (P8 ax ay bx by' cx cy dx dy (wh ax) (wh ay) (wh bx) (wh by') (wh cx) (wh cy) (wh dx) (wh dy)))
  | _ => none
theorem isec : PureOk Tryz.prog 210 isecF := by
  refine pure_of_vc gIS Tryz.func210 rfl (by kernel_rfl) ?_
  intro args v p h hp
  unfold isecF at h
  split at h
  · injection h with h; injection h with h1 h2; subst h1; subst h2
    exact ⟨rfl, isec_run hp⟩
  · cases h
end Go.Proofs.Tryz.Sx

/- What a segment says: the parts. -/
namespace Go.Proofs.Tryz.Sx
open Go Go.Sx Go.Proofs Go.Fl Go.Geo
set_option maxRecDepth 100000

noncomputable def GC : Ctx := ⟨⟨tys, []⟩, [(90, pureCon rayF), (214, pureCon eqZeroF), (80, pureCon fromPF)]⟩
theorem gC : CtxOk Tryz.prog GC := ⟨⟨tysOk, FlatsOk.nil⟩, GamOk.cons (.pure ray) (GamOk.cons (.pure eqZero) (GamOk.cons (.pure fromP) GamOk.nil)), by kernel_rfl⟩

def PW (ax ay bx by' px py : Nat) : Prop := Pts ax ay bx by' px py (wh ax) (wh ay) (wh bx) (wh by') (wh px) (wh py)
noncomputable def onW (ax ay bx by' px py : Nat) : Bool := decide (On (wh ax) (wh ay) (wh bx) (wh by') (wh px) (wh py))

noncomputable def sHasPF : PF := fun
  | [.agg [.flt .f64 ax, .flt .f64 ay, .flt .f64 bx, .flt .f64 by'], .agg [.flt .f64 px, .flt .f64 py]] => some (.bool (onW ax ay bx by' px py), some (PW ax ay bx by' px py))
  | _ => none
theorem vc_sHasP (R : SV → Prop) (ax ay bx by' px py : Nat) : runA GC 0 [] [] (codeOf Tryz.f221) (init Tryz.f221.ntmps [.agg [.flt .f64 ax, .flt .f64 ay, .flt .f64 bx, .flt .f64 by'], .agg [.flt .f64 px, .flt .f64 py]] [] 0) (endK GC.E.T Tryz.f221.results.toList fun _ v => R v) = (
Go.Proofs.Tryz.Sx.Pts ax ay bx by' px py (Go.Proofs.Tryz.Sx.wh ax) (Go.Proofs.Tryz.Sx.wh ay) (Go.Proofs.Tryz.Sx.wh bx) (Go.Proofs.Tryz.Sx.wh by') (Go.Proofs.Tryz.Sx.wh px) (Go.Proofs.Tryz.Sx.wh py) ∧ R (SV.bool (decide (Go.Geo.On
(Go.Proofs.Tryz.Sx.wh ax) (Go.Proofs.Tryz.Sx.wh ay) (Go.Proofs.Tryz.Sx.wh bx) (Go.Proofs.Tryz.Sx.wh by') (Go.Proofs.Tryz.Sx.wh px) (Go.Proofs.Tryz.Sx.wh py))))) := by kernel_rfl
theorem sHasP : PureOk Tryz.prog 221 sHasPF := by
  refine pure_of_vc gC Tryz.func221 rfl (by kernel_rfl) ?_
  intro args v p h hp
  unfold sHasPF at h
  split at h
  · rename_i ax ay bx by' px py
    injection h with h; injection h with h1 h2; subst h1; subst h2
    have hp : PW ax ay bx by' px py := hp
    refine ⟨rfl, _, _, (vc_sHasP _ ax ay bx by' px py).mpr ?_⟩
    exact ⟨hp, by simp [eqv, onW]⟩
  · cases h
noncomputable def sHasSF : PF := fun
  | [.agg [.flt .f64 ax, .flt .f64 ay, .flt .f64 bx, .flt .f64 by'], .agg [.flt .f64 cx, .flt .f64 cy, .flt .f64 dx, .flt .f64 dy]] => some (.bool (onW ax ay bx by' cx cy && onW ax ay bx by' dx dy), some (PW ax ay bx by' cx cy ∧ PW ax ay bx by' dx dy))
  | _ => none
theorem vc_sHasS (R : SV → Prop) (ax ay bx by' cx cy dx dy : Nat) : runA GC 0 [] [] (codeOf Tryz.f231) (init Tryz.f231.ntmps [.agg [.flt .f64 ax, .flt .f64 ay, .flt .f64 bx, .flt .f64 by'], .agg [.flt .f64 cx, .flt .f64 cy, .flt .f64 dx, .flt .f64 dy]] [] 0) (endK GC.E.T Tryz.f231.results.toList fun _ v => R v) = (
Go.Proofs.Tryz.Sx.Pts ax ay bx by' cx cy (Go.Proofs.Tryz.Sx.wh ax) (Go.Proofs.Tryz.Sx.wh ay) (Go.Proofs.Tryz.Sx.wh bx) (Go.Proofs.Tryz.Sx.wh by') (Go.Proofs.Tryz.Sx.wh cx) (Go.Proofs.Tryz.Sx.wh cy) ∧ (decide (Go.Geo.On (Go.Proofs.Tryz.Sx.wh ax)
(Go.Proofs.Tryz.Sx.wh ay) (Go.Proofs.Tryz.Sx.wh bx) (Go.Proofs.Tryz.Sx.wh by') (Go.Proofs.Tryz.Sx.wh cx) (Go.Proofs.Tryz.Sx.wh cy)) = true → Go.Proofs.Tryz.Sx.Pts ax ay bx by' dx dy (Go.Proofs.Tryz.Sx.wh ax) (Go.Proofs.Tryz.Sx.wh ay)
(Go.Proofs.Tryz.Sx.wh bx) (Go.Proofs.Tryz.Sx.wh by') (Go.Proofs.Tryz.Sx.wh dx) (Go.Proofs.Tryz.Sx.wh dy) ∧ R (SV.bool (decide (Go.Geo.On (Go.Proofs.Tryz.Sx.wh ax) (Go.Proofs.Tryz.Sx.wh ay) (Go.Proofs.Tryz.Sx.wh bx) (Go.Proofs.Tryz.Sx.wh by')
(Go.Proofs.Tryz.Sx.wh dx) (Go.Proofs.Tryz.Sx.wh dy))))) ∧ (decide (Go.Geo.On (Go.Proofs.Tryz.Sx.wh ax) (Go.Proofs.Tryz.Sx.wh ay) (Go.Proofs.Tryz.Sx.wh bx) (Go.Proofs.Tryz.Sx.wh by') (Go.Proofs.Tryz.Sx.wh cx) (Go.Proofs.Tryz.Sx.wh cy)) = false → R
SV.ff)) := by kernel_rfl
theorem sHasS : PureOk Tryz.prog 231 sHasSF := by
  refine pure_of_vc gC Tryz.func231 rfl (by kernel_rfl) ?_
  intro args v p h hp
  unfold sHasSF at h
  split at h
  · rename_i ax ay bx by' cx cy dx dy
    injection h with h; injection h with h1 h2; subst h1; subst h2
    have hp : PW ax ay bx by' cx cy ∧ PW ax ay bx by' dx dy := hp
    refine ⟨rfl, _, _, (vc_sHasS _ ax ay bx by' cx cy dx dy).mpr ?_⟩
    simp only [eqv]
    refine ⟨hp.1, fun h => ⟨hp.2, ?_⟩, fun h => ?_⟩
    · unfold onW; rw [h, Bool.true_and]
    · unfold onW; rw [h, Bool.false_and]
  · cases h
noncomputable def sCollF : PF := fun
  | [.agg [.flt .f64 ax, .flt .f64 ay, .flt .f64 bx, .flt .f64 by'], .agg [.flt .f64 px, .flt .f64 py]] => some (.bool (decide (xp (wh px - wh ax) (wh py - wh ay) (wh bx - wh ax) (wh by' - wh ay) = 0)), some (P8 ax ay bx by' px py px py (wh ax) (wh ay) (wh bx) (wh by') (wh px) (wh py) (wh px) (wh py)))
  | _ => none
theorem vc_sColl (R : SV → Prop) (ax ay bx by' px py : Nat) : runA GC 0 [] [] (codeOf Tryz.f211) (init Tryz.f211.ntmps [.agg [.flt .f64 ax, .flt .f64 ay, .flt .f64 bx, .flt .f64 by'], .agg [.flt .f64 px, .flt .f64 py]] [] 0) (endK GC.E.T Tryz.f211.results.toList fun _ v => R v) = (
Go.Sx.fok BinOp.sub .f64 px ax ∧ Go.Sx.fok BinOp.sub .f64 py ay ∧ true = true ∧ Go.Sx.fok BinOp.sub .f64 bx ax ∧ Go.Sx.fok BinOp.sub .f64 by' ay ∧ true = true ∧ Go.Sx.fok BinOp.mul .f64 (Go.Sx.fop BinOp.sub .f64 px ax) (Go.Sx.fop BinOp.sub .f64 by'
ay) ∧ Go.Sx.fok BinOp.mul .f64 (Go.Sx.fop BinOp.sub .f64 py ay) (Go.Sx.fop BinOp.sub .f64 bx ax) ∧ Go.Sx.fok BinOp.sub .f64 (Go.Sx.fop BinOp.mul .f64 (Go.Sx.fop BinOp.sub .f64 px ax) (Go.Sx.fop BinOp.sub .f64 by' ay)) (Go.Sx.fop BinOp.mul .f64
(Go.Sx.fop BinOp.sub .f64 py ay) (Go.Sx.fop BinOp.sub .f64 bx ax)) ∧ R (SV.bool !(Go.Sx.fLt .f64 (Go.Sx.fop BinOp.sub .f64 (Go.Sx.fop BinOp.mul .f64 (Go.Sx.fop BinOp.sub .f64 px ax) (Go.Sx.fop BinOp.sub .f64 by' ay)) (Go.Sx.fop BinOp.mul .f64
(Go.Sx.fop BinOp.sub .f64 py ay) (Go.Sx.fop BinOp.sub .f64 bx ax))) (0 : Nat) || Go.Sx.fGt .f64 (Go.Sx.fop BinOp.sub .f64 (Go.Sx.fop BinOp.mul .f64 (Go.Sx.fop BinOp.sub .f64 px ax) (Go.Sx.fop BinOp.sub .f64 by' ay)) (Go.Sx.fop BinOp.mul .f64
(Go.Sx.fop BinOp.sub .f64 py ay) (Go.Sx.fop BinOp.sub .f64 bx ax))) (0 : Nat)))) := by kernel_rfl
theorem sColl : PureOk Tryz.prog 211 sCollF := by
  refine pure_of_vc gC Tryz.func211 rfl (by kernel_rfl) ?_
  intro args v p h hp
  unfold sCollF at h
  split at h
  · rename_i ax ay bx by' px py
    injection h with h; injection h with h1 h2; subst h1; subst h2
    have hp : P8 ax ay bx by' px py px py (wh ax) (wh ay) (wh bx) (wh by') (wh px) (wh py) (wh px) (wh py) := hp
    refine ⟨rfl, _, _, (vc_sColl _ ax ay bx by' px py).mpr ?_⟩
    obtain ⟨⟨sa1, sa2, sb1, sb2⟩, sc1, sc2, _, _⟩ := hp.s
    obtain ⟨k1, f1, n1⟩ := sub_w hp.cx hp.ax sc1 sa1
    obtain ⟨k2, f2, n2⟩ := sub_w hp.cy hp.ay sc2 sa2
    obtain ⟨k3, f3, n3⟩ := sub_w hp.bx hp.ax sb1 sa1
    obtain ⟨k4, f4, n4⟩ := sub_w hp.by' hp.ay sb2 sa2
    obtain ⟨u1, u2, u3, fu, nu⟩ := cr_w f1 f2 f3 f4 n1 n2 n3 n4
    exact ⟨k1, k2, rfl, k3, k4, rfl, u1, u2, u3, zt fu⟩
  · cases h
def fmin (x y : Nat) : Nat := if fGt .f64 x y = true then y else x
def fmax (x y : Nat) : Nat := if fGt .f64 x y = true then x else y
def sRectF : PF := fun
  | [.agg [.flt .f64 ax, .flt .f64 ay, .flt .f64 bx, .flt .f64 by']] => some (.agg [.flt .f64 (fmin ax bx), .flt .f64 (fmin ay by'), .flt .f64 (fmax ax bx), .flt .f64 (fmax ay by')], none)
  | _ => none
theorem vc_sRect (R : SV → Prop) (ax ay bx by' : Nat) : runA GC 0 [] [] (codeOf Tryz.f113) (init Tryz.f113.ntmps [.agg [.flt .f64 ax, .flt .f64 ay, .flt .f64 bx, .flt .f64 by']] [] 0) (endK GC.E.T Tryz.f113.results.toList fun _ v => R v) = (
(Go.Sx.fGt .f64 ax bx = true → (Go.Sx.fGt .f64 ay by' = true → R (SV.agg [SV.flt .f64 bx, SV.flt .f64 by', SV.flt .f64 ax, SV.flt .f64 ay])) ∧ (Go.Sx.fGt .f64 ay by' = false → R (SV.agg [SV.flt .f64 bx, SV.flt .f64 ay, SV.flt .f64 ax, SV.flt .f64
by']))) ∧ (Go.Sx.fGt .f64 ax bx = false → (Go.Sx.fGt .f64 ay by' = true → R (SV.agg [SV.flt .f64 ax, SV.flt .f64 by', SV.flt .f64 bx, SV.flt .f64 ay])) ∧ (Go.Sx.fGt .f64 ay by' = false → R (SV.agg [SV.flt .f64 ax, SV.flt .f64 ay, SV.flt .f64 bx,
SV.flt .f64 by'])))) := by kernel_rfl
theorem sRect : PureOk Tryz.prog 113 sRectF := by
  refine pure_of_vc gC Tryz.func113 rfl (by kernel_rfl) ?_
  intro args v p h hp
  unfold sRectF at h
  split at h
  · rename_i ax ay bx by'
    injection h with h; injection h with h1 h2; subst h1; subst h2
    clear hp
    refine ⟨rfl, _, _, (vc_sRect _ ax ay bx by').mpr ?_⟩
    simp only [eqv, eqvL, fkEq_self, fmin, fmax]
    grind
  · cases h
def cornersPF : PF := fun
  | [.agg [.flt .f64 ax, .flt .f64 ay, .flt .f64 bx, .flt .f64 by']] => some (.agg [.int .i64 (toI .f64 ax .i64), .int .i64 (toI .f64 ay .i64), .int .i64 (toI .f64 bx .i64), .int .i64 (toI .f64 by' .i64)], some ((toIok .f64 ax .i64 ∧ toIok .f64 ay .i64) ∧ (toIok .f64 bx .i64 ∧ toIok .f64 by' .i64)))
  | _ => none
theorem vc_cornersP (R : SV → Prop) (ax ay bx by' : Nat) : runA GC 0 [] [] (codeOf Tryz.f65) (init Tryz.f65.ntmps [.agg [.flt .f64 ax, .flt .f64 ay, .flt .f64 bx, .flt .f64 by']] [] 0) (endK GC.E.T Tryz.f65.results.toList fun _ v => R v) = (
(Go.Sx.toIok .f64 ax .i64 ∧ Go.Sx.toIok .f64 ay .i64) ∧ (Go.Sx.toIok .f64 bx .i64 ∧ Go.Sx.toIok .f64 by' .i64) ∧ true = true ∧ R (SV.agg [SV.int .i64 (Go.Sx.toI .f64 ax .i64), SV.int .i64 (Go.Sx.toI .f64 ay .i64), SV.int .i64 (Go.Sx.toI .f64 bx
.i64), SV.int .i64 (Go.Sx.toI .f64 by' .i64)])) := by kernel_rfl
theorem cornersP : PureOk Tryz.prog 65 cornersPF := by
  refine pure_of_vc gC Tryz.func65 rfl (by kernel_rfl) ?_
  intro args v p h hp
  unfold cornersPF at h
  split at h
  · rename_i ax ay bx by'
    injection h with h; injection h with h1 h2; subst h1; subst h2
    have hp : (toIok .f64 ax .i64 ∧ toIok .f64 ay .i64) ∧ (toIok .f64 bx .i64 ∧ toIok .f64 by' .i64) := hp
    refine ⟨rfl, _, _, (vc_cornersP _ ax ay bx by').mpr ?_⟩
    simp [eqv, eqvL, kEq_self, hp]
  · cases h

/-! ### Whole numbers -/
def sgn (n : Int) : Int := if 0 < n then 1 else if n < 0 then -1 else 0
def gSignF : PF := fun
  | [.int .i64 n] => some (.int .i64 (sgn n), none)
  | _ => none
theorem vc_gSign (R : SV → Prop) (n : Int) : runA G0 0 [] [] (codeOf Tryz.f104) (init Tryz.f104.ntmps [.int .i64 n] [] 0) (endK G0.E.T Tryz.f104.results.toList fun _ v => R v) = (
(decide ((0 : Int) < n) = true → R (SV.int .i64 (1 : Int))) ∧ (decide ((0 : Int) < n) = false → (decide (n < (0 : Int)) = true → R (SV.int .i64 (-1 : Int))) ∧ (decide (n < (0 : Int)) = false → R (SV.int .i64 (0 : Int))))) := by kernel_rfl
theorem gSign : PureOk Tryz.prog 104 gSignF := by
  refine pure_of_vc g0 Tryz.func104 rfl (by kernel_rfl) ?_
  intro args v p h hp
  unfold gSignF at h
  split at h
  · rename_i n
    injection h with h; injection h with h1 h2; subst h1; subst h2
    clear hp
    refine ⟨rfl, _, _, (vc_gSign _ n).mpr ?_⟩
    simp only [eqv, kEq_self, sgn]
    grind
  · cases h
def GD : Ctx := ⟨⟨tys, []⟩, [(71, pureCon onF), (87, pureCon sideF), (104, pureCon gSignF)]⟩
theorem gD : CtxOk Tryz.prog GD := ⟨⟨tysOk, FlatsOk.nil⟩, GamOk.cons (.pure on) (GamOk.cons (.pure side) (GamOk.cons (.pure gSign) GamOk.nil)), by kernel_rfl⟩

def sm8 (a1 a2 b1 b2 c1 c2 d1 d2 : Int) : Prop := (small a1 ∧ small a2 ∧ small b1 ∧ small b2) ∧ (small c1 ∧ small c2 ∧ small d1 ∧ small d2)
def GMeet (a1 a2 b1 b2 c1 c2 d1 d2 : Int) : Prop := On a1 a2 b1 b2 c1 c2 ∨ On a1 a2 b1 b2 d1 d2 ∨ On c1 c2 d1 d2 a1 a2 ∨ On c1 c2 d1 d2 b1 b2 ∨
  (sgn (cross a1 a2 b1 b2 c1 c2) * sgn (cross a1 a2 b1 b2 d1 d2) < 0 ∧ sgn (cross c1 c2 d1 d2 a1 a2) * sgn (cross c1 c2 d1 d2 b1 b2) < 0)
instance (a b c d e f g h : Int) : Decidable (GMeet a b c d e f g h) := by unfold GMeet; infer_instance
def GCov (a1 a2 b1 b2 c1 c2 d1 d2 : Int) : Prop := On c1 c2 d1 d2 a1 a2 ∧ On c1 c2 d1 d2 b1 b2 ∧ ¬ On a1 a2 b1 b2 c1 c2 ∧ ¬ On a1 a2 b1 b2 d1 d2
instance (a b c d e f g h : Int) : Decidable (GCov a b c d e f g h) := by unfold GCov; infer_instance
theorem sgn_wrap (x y : Int) : IntKind.i64.wrap (sgn x * sgn y) = sgn x * sgn y := by
  unfold sgn
  repeat' split
  all_goals decide

def gMeetF : PF := fun
  | [.agg [.int .i64 a1, .int .i64 a2], .agg [.int .i64 b1, .int .i64 b2], .agg [.int .i64 c1, .int .i64 c2], .agg [.int .i64 d1, .int .i64 d2]] => some (.bool (decide (GMeet a1 a2 b1 b2 c1 c2 d1 d2)), some (sm8 a1 a2 b1 b2 c1 c2 d1 d2))
  | _ => none
theorem vc_gMeet (R : SV → Prop) (a1 a2 b1 b2 c1 c2 d1 d2 : Int) : runA GD 0 [] [] (codeOf Tryz.f93) (init Tryz.f93.ntmps [.agg [.int .i64 a1, .int .i64 a2], .agg [.int .i64 b1, .int .i64 b2], .agg [.int .i64 c1, .int .i64 c2], .agg [.int .i64 d1, .int .i64 d2]] [] 0) (endK GD.E.T Tryz.f93.results.toList fun _ v => R v) = (
Go.Proofs.Tryz.Sx.small6 a1 a2 b1 b2 c1 c2 ∧ (decide (Go.Geo.On a1 a2 b1 b2 c1 c2) = true → R SV.tt) ∧ (decide (Go.Geo.On a1 a2 b1 b2 c1 c2) = false → Go.Proofs.Tryz.Sx.small6 a1 a2 b1 b2 d1 d2 ∧ (decide (Go.Geo.On a1 a2 b1 b2 d1 d2) = true → R
SV.tt) ∧ (decide (Go.Geo.On a1 a2 b1 b2 d1 d2) = false → Go.Proofs.Tryz.Sx.small6 c1 c2 d1 d2 a1 a2 ∧ (decide (Go.Geo.On c1 c2 d1 d2 a1 a2) = true → R SV.tt) ∧ (decide (Go.Geo.On c1 c2 d1 d2 a1 a2) = false → Go.Proofs.Tryz.Sx.small6 c1 c2 d1 d2 b1 b2
∧ (decide (Go.Geo.On c1 c2 d1 d2 b1 b2) = true → R SV.tt) ∧ (decide (Go.Geo.On c1 c2 d1 d2 b1 b2) = false → (decide (Go.IntKind.wrap .i64 (Go.Proofs.Tryz.Sx.sgn (Go.Geo.cross a1 a2 b1 b2 c1 c2) * Go.Proofs.Tryz.Sx.sgn (Go.Geo.cross a1 a2 b1 b2 d1
d2)) < (0 : Int)) = true → Go.Proofs.Tryz.Sx.small6 a1 a2 b1 b2 c1 c2 ∧ Go.Proofs.Tryz.Sx.small6 a1 a2 b1 b2 d1 d2 ∧ decide (Go.IntKind.wrap .i64 (Go.Proofs.Tryz.Sx.sgn (Go.Geo.cross a1 a2 b1 b2 c1 c2) * Go.Proofs.Tryz.Sx.sgn (Go.Geo.cross a1 a2 b1
b2 d1 d2)) < (0 : Int)) = true ∧ Go.Proofs.Tryz.Sx.small6 c1 c2 d1 d2 a1 a2 ∧ Go.Proofs.Tryz.Sx.small6 c1 c2 d1 d2 b1 b2 ∧ true = true ∧ R (SV.bool (decide (Go.IntKind.wrap .i64 (Go.Proofs.Tryz.Sx.sgn (Go.Geo.cross c1 c2 d1 d2 a1 a2) *
Go.Proofs.Tryz.Sx.sgn (Go.Geo.cross c1 c2 d1 d2 b1 b2)) < (0 : Int))))) ∧ (decide (Go.IntKind.wrap .i64 (Go.Proofs.Tryz.Sx.sgn (Go.Geo.cross a1 a2 b1 b2 c1 c2) * Go.Proofs.Tryz.Sx.sgn (Go.Geo.cross a1 a2 b1 b2 d1 d2)) < (0 : Int)) = false →
Go.Proofs.Tryz.Sx.small6 a1 a2 b1 b2 c1 c2 ∧ Go.Proofs.Tryz.Sx.small6 a1 a2 b1 b2 d1 d2 ∧ decide (Go.IntKind.wrap .i64 (Go.Proofs.Tryz.Sx.sgn (Go.Geo.cross a1 a2 b1 b2 c1 c2) * Go.Proofs.Tryz.Sx.sgn (Go.Geo.cross a1 a2 b1 b2 d1 d2)) < (0 : Int)) =
false ∧ true = true ∧ R SV.ff)))))) := by kernel_rfl
theorem gMeet : PureOk Tryz.prog 93 gMeetF := by
  refine pure_of_vc gD Tryz.func93 rfl (by kernel_rfl) ?_
  intro args v p h hp
  unfold gMeetF at h
  split at h
  · rename_i a1 a2 b1 b2 c1 c2 d1 d2
    injection h with h; injection h with h1 h2; subst h1; subst h2
    have hp : sm8 a1 a2 b1 b2 c1 c2 d1 d2 := hp
    refine ⟨rfl, _, _, (vc_gMeet _ a1 a2 b1 b2 c1 c2 d1 d2).mpr ?_⟩
    have m1 : small6 a1 a2 b1 b2 c1 c2 := ⟨⟨hp.1.1, hp.1.2.1⟩, ⟨hp.1.2.2.1, hp.1.2.2.2⟩, hp.2.1, hp.2.2.1⟩
    have m2 : small6 a1 a2 b1 b2 d1 d2 := ⟨⟨hp.1.1, hp.1.2.1⟩, ⟨hp.1.2.2.1, hp.1.2.2.2⟩, hp.2.2.2.1, hp.2.2.2.2⟩
    have m3 : small6 c1 c2 d1 d2 a1 a2 := ⟨⟨hp.2.1, hp.2.2.1⟩, ⟨hp.2.2.2.1, hp.2.2.2.2⟩, hp.1.1, hp.1.2.1⟩
    have m4 : small6 c1 c2 d1 d2 b1 b2 := ⟨⟨hp.2.1, hp.2.2.1⟩, ⟨hp.2.2.2.1, hp.2.2.2.2⟩, hp.1.2.2.1, hp.1.2.2.2⟩
    simp only [eqv, sgn_wrap, m1, m2, m3, m4, true_and, GMeet]
    grind
  · cases h
def gCovF : PF := fun
  | [.agg [.int .i64 a1, .int .i64 a2], .agg [.int .i64 b1, .int .i64 b2], .agg [.int .i64 c1, .int .i64 c2], .agg [.int .i64 d1, .int .i64 d2]] => some (.bool (decide (GCov a1 a2 b1 b2 c1 c2 d1 d2)), some (sm8 a1 a2 b1 b2 c1 c2 d1 d2))
  | _ => none
theorem vc_gCov (R : SV → Prop) (a1 a2 b1 b2 c1 c2 d1 d2 : Int) : runA GD 0 [] [] (codeOf Tryz.f94) (init Tryz.f94.ntmps [.agg [.int .i64 a1, .int .i64 a2], .agg [.int .i64 b1, .int .i64 b2], .agg [.int .i64 c1, .int .i64 c2], .agg [.int .i64 d1, .int .i64 d2]] [] 0) (endK GD.E.T Tryz.f94.results.toList fun _ v => R v) = (
Go.Proofs.Tryz.Sx.small6 c1 c2 d1 d2 a1 a2 ∧ (decide (Go.Geo.On c1 c2 d1 d2 a1 a2) = true → Go.Proofs.Tryz.Sx.small6 c1 c2 d1 d2 b1 b2 ∧ (decide (Go.Geo.On c1 c2 d1 d2 b1 b2) = true → Go.Proofs.Tryz.Sx.small6 a1 a2 b1 b2 c1 c2 ∧ ((!decide (Go.Geo.On
a1 a2 b1 b2 c1 c2)) = true → Go.Proofs.Tryz.Sx.small6 a1 a2 b1 b2 d1 d2 ∧ R (SV.bool !decide (Go.Geo.On a1 a2 b1 b2 d1 d2))) ∧ ((!decide (Go.Geo.On a1 a2 b1 b2 c1 c2)) = false → R SV.ff)) ∧ (decide (Go.Geo.On c1 c2 d1 d2 b1 b2) = false → R SV.ff)) ∧
(decide (Go.Geo.On c1 c2 d1 d2 a1 a2) = false → R SV.ff)) := by kernel_rfl
theorem gCov : PureOk Tryz.prog 94 gCovF := by
  refine pure_of_vc gD Tryz.func94 rfl (by kernel_rfl) ?_
  intro args v p h hp
  unfold gCovF at h
  split at h
  · rename_i a1 a2 b1 b2 c1 c2 d1 d2
    injection h with h; injection h with h1 h2; subst h1; subst h2
    have hp : sm8 a1 a2 b1 b2 c1 c2 d1 d2 := hp
    refine ⟨rfl, _, _, (vc_gCov _ a1 a2 b1 b2 c1 c2 d1 d2).mpr ?_⟩
    have m1 : small6 a1 a2 b1 b2 c1 c2 := ⟨⟨hp.1.1, hp.1.2.1⟩, ⟨hp.1.2.2.1, hp.1.2.2.2⟩, hp.2.1, hp.2.2.1⟩
    have m2 : small6 a1 a2 b1 b2 d1 d2 := ⟨⟨hp.1.1, hp.1.2.1⟩, ⟨hp.1.2.2.1, hp.1.2.2.2⟩, hp.2.2.2.1, hp.2.2.2.2⟩
    have m3 : small6 c1 c2 d1 d2 a1 a2 := ⟨⟨hp.2.1, hp.2.2.1⟩, ⟨hp.2.2.2.1, hp.2.2.2.2⟩, hp.1.1, hp.1.2.1⟩
    have m4 : small6 c1 c2 d1 d2 b1 b2 := ⟨⟨hp.2.1, hp.2.2.1⟩, ⟨hp.2.2.2.1, hp.2.2.2.2⟩, hp.1.2.2.1, hp.1.2.2.2⟩
    simp only [eqv, m1, m2, m3, m4, true_and, GCov]
    grind
  · cases h
def GE' : Ctx := ⟨⟨tys, []⟩, [(93, pureCon gMeetF), (94, pureCon gCovF)]⟩
theorem gE' : CtxOk Tryz.prog GE' := ⟨⟨tysOk, FlatsOk.nil⟩, GamOk.cons (.pure gMeet) (GamOk.cons (.pure gCov) GamOk.nil), by kernel_rfl⟩
def gPlainF : PF := fun
  | [.agg [.int .i64 a1, .int .i64 a2], .agg [.int .i64 b1, .int .i64 b2], .agg [.int .i64 c1, .int .i64 c2], .agg [.int .i64 d1, .int .i64 d2]] => some (.tup [.bool (decide (GMeet a1 a2 b1 b2 c1 c2 d1 d2)), .bool (decide (¬ GCov a1 a2 b1 b2 c1 c2 d1 d2 ∧ ¬ GCov c1 c2 d1 d2 a1 a2 b1 b2))], some (sm8 a1 a2 b1 b2 c1 c2 d1 d2))
  | _ => none
theorem vc_gPlain (R : SV → Prop) (a1 a2 b1 b2 c1 c2 d1 d2 : Int) : runA GE' 0 [] [] (codeOf Tryz.f77) (init Tryz.f77.ntmps [.agg [.int .i64 a1, .int .i64 a2], .agg [.int .i64 b1, .int .i64 b2], .agg [.int .i64 c1, .int .i64 c2], .agg [.int .i64 d1, .int .i64 d2]] [] 0) (endK GE'.E.T Tryz.f77.results.toList fun _ v => R v) = (
((!decide (Go.Proofs.Tryz.Sx.GCov a1 a2 b1 b2 c1 c2 d1 d2)) = true → Go.Proofs.Tryz.Sx.sm8 a1 a2 b1 b2 c1 c2 d1 d2 ∧ Go.Proofs.Tryz.Sx.sm8 a1 a2 b1 b2 c1 c2 d1 d2 ∧ (!decide (Go.Proofs.Tryz.Sx.GCov a1 a2 b1 b2 c1 c2 d1 d2)) = true ∧
Go.Proofs.Tryz.Sx.sm8 c1 c2 d1 d2 a1 a2 b1 b2 ∧ true = true ∧ R (SV.tup [SV.bool (decide (Go.Proofs.Tryz.Sx.GMeet a1 a2 b1 b2 c1 c2 d1 d2)), SV.bool !decide (Go.Proofs.Tryz.Sx.GCov c1 c2 d1 d2 a1 a2 b1 b2)])) ∧ ((!decide (Go.Proofs.Tryz.Sx.GCov a1 a2
b1 b2 c1 c2 d1 d2)) = false → Go.Proofs.Tryz.Sx.sm8 a1 a2 b1 b2 c1 c2 d1 d2 ∧ Go.Proofs.Tryz.Sx.sm8 a1 a2 b1 b2 c1 c2 d1 d2 ∧ (!decide (Go.Proofs.Tryz.Sx.GCov a1 a2 b1 b2 c1 c2 d1 d2)) = false ∧ true = true ∧ R (SV.tup [SV.bool (decide
(Go.Proofs.Tryz.Sx.GMeet a1 a2 b1 b2 c1 c2 d1 d2)), SV.ff]))) := by kernel_rfl
theorem gPlain : PureOk Tryz.prog 77 gPlainF := by
  refine pure_of_vc gE' Tryz.func77 rfl (by kernel_rfl) ?_
  intro args v p h hp
  unfold gPlainF at h
  split at h
  · rename_i a1 a2 b1 b2 c1 c2 d1 d2
    injection h with h; injection h with h1 h2; subst h1; subst h2
    have hp : sm8 a1 a2 b1 b2 c1 c2 d1 d2 := hp
    refine ⟨rfl, _, _, (vc_gPlain _ a1 a2 b1 b2 c1 c2 d1 d2).mpr ?_⟩
    have m1 : sm8 c1 c2 d1 d2 a1 a2 b1 b2 := ⟨hp.2, hp.1⟩
    simp only [eqv, eqvL, m1, hp, true_and]
    grind
  · cases h

/-- The least, the greatest of the first i numbers of a kind (and of the first one). -/
def mn (g : Nat → Int) (k : Nat) : Nat → Int
  | 0 => g k
  | i + 1 => imin (mn g k i) (g (2 * i + k))
def mx (g : Nat → Int) (k : Nat) : Nat → Int
  | 0 => g k
  | i + 1 => imax (mx g k i) (g (2 * i + k))
def gRectL (len m : Nat) (g : Nat → Int) : Fam := ⟨Nat, fun i =>
  ⟨57, [(2, .ptr 1 0), (3, .ptr 2 0), (17, .slcc 0 len), (18, .int .i64 len), (19, .int .i64 i)], [(0, ⟨false, 28, .ints .i64 m g, 0⟩), (1, ⟨true, 29, .cells [.int .i64 0, .int .i64 0, .int .i64 0, .int .i64 0], 0⟩), (2, ⟨true, 29, .cells [.int .i64 (mn g 0 i), .int .i64 (mn g 1 i), .int .i64 (mx g 0 i), .int .i64 (mx g 1 i)], 0⟩)], 3⟩, fun i => i ≤ len, fun i => len - i⟩
noncomputable def gRectC : List SV → RdM
  | [.slcc n len] => .read n fun o0 => (match intsFrom .i64 o0.c with
    | some (m0, g) => .ret ⟨[.slcc 0 len], [(0, ⟨false, 28, .ints .i64 m0 g, 0⟩)], .agg [.int .i64 (mn g 0 len), .int .i64 (mn g 1 len), .int .i64 (mx g 0 len), .int .i64 (mx g 1 len)], [], [], some (1 ≤ len ∧ 2 * len ≤ m0 ∧ len ≤ 1000000)⟩
    | none => .fail)
  | _ => .fail
theorem vc_gRect (len : Nat) (m0 : Nat) (g : Nat → Int) : runA G0 1 [(5, gRectL len m0 g)] [] (codeOf Tryz.f27) (init Tryz.f27.ntmps [.slcc 0 len] [(0, ⟨false, 28, .ints .i64 (m0) g, 0⟩)] 1) (endK G0.E.T Tryz.f27.results.toList fun S v => postP 1 ⟨[.slcc 0 len], [(0, ⟨false, 28, .ints .i64 (m0) g, 0⟩)], .agg [.int .i64 (mn g 0 len), .int .i64 (mn g 1 len), .int .i64 (mx g 0 len), .int .i64 (mx g 1 len)], [], [], some (1 ≤ len ∧ 2 * len ≤ m0 ∧ len ≤ 1000000)⟩ S v) = (
(((↑len : Int) == (0 : Int)) = true → ((0 : Int) = Go.Proofs.Tryz.Sx.mn g (0 : Nat) len ∧ (0 : Int) = Go.Proofs.Tryz.Sx.mn g (1 : Nat) len ∧ (0 : Int) = Go.Proofs.Tryz.Sx.mx g (0 : Nat) len ∧ (0 : Int) = Go.Proofs.Tryz.Sx.mx g (1 : Nat) len ∧ True) ∧
True) ∧ (((↑len : Int) == (0 : Int)) = false → (((0 : Int) ≤ (0 : Int) ∧ (0 : Int) < (↑len : Int)) ∧ (1 : Nat) ≤ m0) ∧ (2 : Nat) ≤ m0 ∧ (((0 : Int) ≤ (0 : Int) ∧ (0 : Int) < (↑len : Int)) ∧ (1 : Nat) ≤ m0) ∧ (2 : Nat) ≤ m0 ∧ true = true ∧ (∃ (i :
Nat), i ≤ len ∧ ((True ∧ (0 : Nat) = (0 : Nat)) ∧ (True ∧ (0 : Nat) = (0 : Nat)) ∧ (True ∧ len = len) ∧ (↑len : Int) = (↑len : Int) ∧ (0 : Int) = (↑i : Int) ∧ True) ∧ True ∧ (m0 ≤ m0 ∧ ∀ (i : Nat), i < m0 → g i = g i) ∧ True ∧ ((29 : Nat) = (29 :
Nat) ∧ (0 : Nat) = (0 : Nat) ∧ (0 : Int) = (0 : Int) ∧ (0 : Int) = (0 : Int) ∧ (0 : Int) = (0 : Int) ∧ (0 : Int) = (0 : Int) ∧ True) ∧ True ∧ ((29 : Nat) = (29 : Nat) ∧ (0 : Nat) = (0 : Nat) ∧ g (0 : Nat) = Go.Proofs.Tryz.Sx.mn g (0 : Nat) i ∧ g (1 :
Nat) = Go.Proofs.Tryz.Sx.mn g (1 : Nat) i ∧ g (0 : Nat) = Go.Proofs.Tryz.Sx.mx g (0 : Nat) i ∧ g (1 : Nat) = Go.Proofs.Tryz.Sx.mx g (1 : Nat) i ∧ True) ∧ True) ∧ ∀ (i : Nat), i ≤ len → (decide ((↑i : Int) < (↑len : Int)) = true → (((0 : Int) ≤ (↑i :
Int) ∧ (↑i : Int) < (↑len : Int)) ∧ (1 : Nat) ≤ m0) ∧ (0 : Nat) + Int.toNat (↑i : Int) * (2 : Nat) + (2 : Nat) ≤ m0 ∧ (((0 : Int) ≤ (0 : Int) ∧ (0 : Int) < (2 : Int)) ∧ True) ∧ (((0 : Int) ≤ (0 : Int) ∧ (0 : Int) < (2 : Int)) ∧ True) ∧ (((0 : Int) ≤
(0 : Int) ∧ (0 : Int) < (2 : Int)) ∧ True) ∧ (((0 : Int) ≤ (0 : Int) ∧ (0 : Int) < (2 : Int)) ∧ True) ∧ true = true ∧ (((0 : Int) ≤ (1 : Int) ∧ (1 : Int) < (2 : Int)) ∧ True) ∧ (((0 : Int) ≤ (1 : Int) ∧ (1 : Int) < (2 : Int)) ∧ True) ∧ (((0 : Int) ≤
(1 : Int) ∧ (1 : Int) < (2 : Int)) ∧ True) ∧ (((0 : Int) ≤ (1 : Int) ∧ (1 : Int) < (2 : Int)) ∧ True) ∧ true = true ∧ ∃ (i' : Nat), i' ≤ len ∧ len - i' < len - i ∧ ((True ∧ (0 : Nat) = (0 : Nat)) ∧ (True ∧ (0 : Nat) = (0 : Nat)) ∧ (True ∧ len = len)
∧ (↑len : Int) = (↑len : Int) ∧ Go.IntKind.wrap .i64 ((↑i : Int) + (1 : Int)) = (↑i' : Int) ∧ True) ∧ True ∧ (m0 ≤ m0 ∧ ∀ (i : Nat), i < m0 → g i = g i) ∧ True ∧ ((29 : Nat) = (29 : Nat) ∧ (0 : Nat) = (0 : Nat) ∧ (0 : Int) = (0 : Int) ∧ (0 : Int) =
(0 : Int) ∧ (0 : Int) = (0 : Int) ∧ (0 : Int) = (0 : Int) ∧ True) ∧ True ∧ ((29 : Nat) = (29 : Nat) ∧ (0 : Nat) = (0 : Nat) ∧ Go.Sx.imin (Go.Proofs.Tryz.Sx.mn g (0 : Nat) i) (g ((0 : Nat) + Int.toNat (↑i : Int) * (2 : Nat))) = Go.Proofs.Tryz.Sx.mn g
(0 : Nat) i' ∧ Go.Sx.imin (Go.Proofs.Tryz.Sx.mn g (1 : Nat) i) (g ((0 : Nat) + Int.toNat (↑i : Int) * (2 : Nat) + (1 : Nat))) = Go.Proofs.Tryz.Sx.mn g (1 : Nat) i' ∧ Go.Sx.imax (Go.Proofs.Tryz.Sx.mx g (0 : Nat) i) (g ((0 : Nat) + Int.toNat (↑i : Int)
* (2 : Nat))) = Go.Proofs.Tryz.Sx.mx g (0 : Nat) i' ∧ Go.Sx.imax (Go.Proofs.Tryz.Sx.mx g (1 : Nat) i) (g ((0 : Nat) + Int.toNat (↑i : Int) * (2 : Nat) + (1 : Nat))) = Go.Proofs.Tryz.Sx.mx g (1 : Nat) i' ∧ True) ∧ True) ∧ (decide ((↑i : Int) < (↑len :
Int)) = false → (Go.Proofs.Tryz.Sx.mn g (0 : Nat) i = Go.Proofs.Tryz.Sx.mn g (0 : Nat) len ∧ Go.Proofs.Tryz.Sx.mn g (1 : Nat) i = Go.Proofs.Tryz.Sx.mn g (1 : Nat) len ∧ Go.Proofs.Tryz.Sx.mx g (0 : Nat) i = Go.Proofs.Tryz.Sx.mx g (0 : Nat) len ∧
Go.Proofs.Tryz.Sx.mx g (1 : Nat) i = Go.Proofs.Tryz.Sx.mx g (1 : Nat) len ∧ True) ∧ True))) := by kernel_rfl
theorem gRect : ConOk Tryz.prog 27 (conR gRectC) := by
  refine con_of_vc g0 Tryz.func27 rfl (by kernel_rfl) fun args => ?_
  unfold gRectC
  split
  · rename_i n len
    intro o0
    show RdM.All _ (match intsFrom .i64 o0.c with | some (m, g) => _ | none => _) _
    split
    · rename_i m0 g hm0
      intro ho
      replace ho : 1 ≤ len ∧ 2 * len ≤ m0 ∧ len ≤ 1000000 := ho
      refine ⟨?_, _, _, (vc_gRect len m0 g).mpr ?_⟩
      · refine okFlag_mk rfl ⟨?_, ⟨trivial, (contR_ints hm0).1, trivial⟩⟩
        simp [eqvRL, eqvR, kEq_self, fkEq_self, sgSig, fsts, nth, sameN_self]
      · refine ⟨fun h => ?_, fun _ => ⟨by omega, by omega, by omega, by omega, rfl, ⟨0, by simp [mn, mx]⟩, fun i hi => ⟨fun h => ?_, fun h => ?_⟩⟩⟩
        · simp at h; omega
        · have h := of_decide_eq_true h
          have e : 0 + (i : Int).toNat * 2 = 2 * i := by omega
          have hw : IntKind.i64.wrap ((i : Int) + 1) = ((i + 1 : Nat) : Int) := by rw [wrap64 (by omega) (by omega)]; omega
          rw [e, hw]
          refine ⟨by omega, by omega, by simp, by simp, by simp, by simp, rfl, by simp, by simp, by simp, by simp, rfl, i + 1, by omega, by omega, by simp [mn, mx]⟩
        · have h := of_decide_eq_false h
          have : i = len := by omega
          subst this
          simp
    · trivial
  · trivial
end Go.Proofs.Tryz.Sx
