/- Parts of a proof, in order: what each says stands at its head. No conditions. -/
import Derived.Test.YtfhkmkhcofodmaaGreatM4
namespace Go.Proofs.Tryz.Sx
open Go Go.Sx Go.Proofs Go.Fl Go.Geo
set_option maxRecDepth 100000
def eqZeroF : PF := fun
 | [.flt .f64 x] => some (.bool (!(fLt .f64 x 0 || fGt .f64 x 0)), none)
 | _ => none
theorem vc_eqZero (R : SV → Prop) (x : Nat) : runA G0 0 [] [] (codeOf Tryz.f214) (init Tryz.f214.ntmps [.flt .f64 x] [] 0) (endK G0.E.T Tryz.f214.results.toList fun _ v => R v) = (
(fLt .f64 x (0 : Nat) = true → R SV.ff) ∧ (fLt .f64 x (0 : Nat) = false → R (SV.bool !fGt .f64 x (0 : Nat)))) := by kernel_rfl
theorem eqZero : PureOk Tryz.prog 214 eqZeroF := by
 refine pure_of_vc g0 Tryz.func214 rfl (by kernel_rfl) ?_
 intro args v p h hp
 unfold eqZeroF at h
 split at h
 · rename_i x
   injection h with h; injection h with h1 h2; subst h1; subst h2
   clear hp
   refine ⟨rfl, _, _, (vc_eqZero _ x).mpr ?_⟩
   simp only [eqv]
   grind
 · cases h
noncomputable def GIS : Ctx := ⟨⟨tys, [(100, [true, true])]⟩, [(90, pureCon rayF), (214, pureCon eqZeroF)]⟩
theorem gIS : CtxOk Tryz.prog GIS := ⟨⟨tysOk, FlatsOk.cons flat61 FlatsOk.nil⟩, GamOk.cons (.pure ray) (GamOk.cons (.pure eqZero) GamOk.nil), by kernel_rfl⟩
abbrev D (x y : Nat) : Nat := fop .sub .f64 x y
abbrev M (x y : Nat) : Nat := fop .mul .f64 x y
abbrev CR (x y z w : Nat) : Nat := D (M x w) (M y z)
def isH (ax ay bx by' cx cy dx dy : Nat) : Heap := [(0, ⟨true, 111, .cells [.flt .f64 ax, .flt .f64 ay, .flt .f64 bx, .flt .f64 by'], 0⟩), (1, ⟨true, 111, .cells [.flt .f64 cx, .flt .f64 cy, .flt .f64 dx, .flt .f64 dy], 0⟩), (2, ⟨true, 100, .cells [.flt .f64 ax, .flt .f64 ay], 0⟩), (3, ⟨true, 100, .cells [.flt .f64 bx, .flt .f64 by'], 0⟩), (4, ⟨true, 100, .cells [.flt .f64 cx, .flt .f64 cy], 0⟩), (5, ⟨true, 100, .cells [.flt .f64 dx, .flt .f64 dy], 0⟩)]
def isS : Slots := [(2, .ptr 0 0), (3, .ptr 1 0), (5, .ptr 2 0), (6, .ptr 3 0), (7, .ptr 4 0), (8, .ptr 5 0)]
def isF (ax ay bx by' cx cy dx dy : Nat) (p : Prop) : Fam := ⟨Nat, fun _ => ⟨300, isS, isH ax ay bx by' cx cy dx dy, 6⟩, fun _ => p, fun _ => 0⟩
def isF2 (ax ay bx by' cx cy dx dy : Nat) (p : Prop) : Fam := ⟨Nat, fun _ => ⟨300, (9, .flt .f64 (D cx ax)) :: (10, .flt .f64 (D cy ay)) :: (11, .flt .f64 (D bx ax)) :: (12, .flt .f64 (D by' ay)) :: (13, .flt .f64 (CR (D cx ax) (D cy ay) (D bx ax) (D by' ay))) :: isS, isH ax ay bx by' cx cy dx dy, 6⟩, fun _ => p, fun _ => 0⟩
def isF3 (ax ay bx by' cx cy dx dy : Nat) (p : Prop) : Fam := ⟨Nat, fun _ => ⟨300, (13, .flt .f64 (CR (D cx ax) (D cy ay) (D bx ax) (D by' ay))) :: (16, .flt .f64 (CR (D cx ax) (D cy ay) (D dx cx) (D dy cy))) :: (17, .flt .f64 (CR (D bx ax) (D by' ay) (D dx cx) (D dy cy))) :: isS, isH ax ay bx by' cx cy dx dy, 6⟩, fun _ => p, fun _ => 0⟩
def yMeet (a2 b2 c2 d2 : Int) : Prop := ¬ (max a2 b2 < min c2 d2 ∨ max c2 d2 < min a2 b2)
def noEnds (a1 a2 b1 b2 c1 c2 d1 d2 : Int) : Prop := ¬ ((a1 = c1 ∧ a2 = c2) ∨ (a1 = d1 ∧ a2 = d2) ∨ (b1 = c1 ∧ b2 = c2) ∨ (b1 = d1 ∧ b2 = d2))
def xp (x y z w : Int) : Int := x * w - y * z
def half (a b c : Int) : Prop := (c ≤ a ∧ b < c) ∨ (a < c ∧ c ≤ b)
def Isec (a1 a2 b1 b2 c1 c2 d1 d2 : Int) : Prop :=
 yMeet a2 b2 c2 d2 ∧ yMeet a1 b1 c1 d1 ∧ (¬ noEnds a1 a2 b1 b2 c1 c2 d1 d2 ∨
   (xp (c1 - a1) (c2 - a2) (b1 - a1) (b2 - a2) = 0 ∧ (half a1 b1 c1 ∨ half a2 b2 c2 ∨ On a1 a2 b1 b2 c1 c2 ∨ On a1 a2 b1 b2 d1 d2)) ∨
   (xp (c1 - a1) (c2 - a2) (b1 - a1) (b2 - a2) ≠ 0 ∧ xp (b1 - a1) (b2 - a2) (d1 - c1) (d2 - c2) ≠ 0 ∧
     0 ≤ xp (c1 - a1) (c2 - a2) (d1 - c1) (d2 - c2) * xp (b1 - a1) (b2 - a2) (d1 - c1) (d2 - c2) ∧ (xp (c1 - a1) (c2 - a2) (d1 - c1) (d2 - c2)).natAbs ≤ (xp (b1 - a1) (b2 - a2) (d1 - c1) (d2 - c2)).natAbs ∧
     0 ≤ xp (c1 - a1) (c2 - a2) (b1 - a1) (b2 - a2) * xp (b1 - a1) (b2 - a2) (d1 - c1) (d2 - c2) ∧ (xp (c1 - a1) (c2 - a2) (b1 - a1) (b2 - a2)).natAbs ≤ (xp (b1 - a1) (b2 - a2) (d1 - c1) (d2 - c2)).natAbs))
instance (a b c d : Int) : Decidable (yMeet a b c d) := by unfold yMeet; infer_instance
instance (a b c d e f g h : Int) : Decidable (noEnds a b c d e f g h) := by unfold noEnds; infer_instance
instance (a b c : Int) : Decidable (half a b c) := by unfold half; infer_instance
instance (a b c d e f g h : Int) : Decidable (Isec a b c d e f g h) := by unfold Isec; infer_instance
structure P8 (ax ay bx by' cx cy dx dy : Nat) (a1 a2 b1 b2 c1 c2 d1 d2 : Int) : Prop where
 ax : FI ax a1
 ay : FI ay a2
 bx : FI bx b1
 by' : FI by' b2
 cx : FI cx c1
 cy : FI cy c2
 dx : FI dx d1
 dy : FI dy d2
 s : (small a1 ∧ small a2 ∧ small b1 ∧ small b2) ∧ (small c1 ∧ small c2 ∧ small d1 ∧ small d2)
theorem vc_isec (R : SV → Prop) (P1 P2 P3 P4 P5 : Prop) (ax ay bx by' cx cy dx dy : Nat) : runA GIS 0 [] [(2, isF ax ay bx by' cx cy dx dy True), (13, isF ax ay bx by' cx cy dx dy P1), (24, isF ax ay bx by' cx cy dx dy P2), (26, isF ax ay bx by' cx cy dx dy P3), (29, isF2 ax ay bx by' cx cy dx dy P3), (33, isF2 ax ay bx by' cx cy dx dy P4), (36, isF3 ax ay bx by' cx cy dx dy P4), (38, isF3 ax ay bx by' cx cy dx dy P5)] (codeOf Tryz.f210) (init 300 [.agg [.flt .f64 ax, .flt .f64 ay, .flt .f64 bx, .flt .f64 by'], .agg [.flt .f64 cx, .flt .f64 cy, .flt .f64 dx, .flt .f64 dy]] [] 0) (endK GIS.E.T Tryz.f210.results.toList fun _ v => R v) = (
(true = true ∧ ∃ (_ : Nat), True ∧ ((True ∧ (0 : Nat) = (0 : Nat)) ∧ (True ∧ (0 : Nat) = (0 : Nat)) ∧ (True ∧ (0 : Nat) = (0 : Nat)) ∧ (True ∧ (0 : Nat) = (0 : Nat)) ∧ (True ∧ (0 : Nat) = (0 : Nat)) ∧ (True ∧ (0 : Nat) = (0 : Nat)) ∧ True) ∧ True ∧
((111 : Nat) = (111 : Nat) ∧ (0 : Nat) = (0 : Nat) ∧ ax = ax ∧ ay = ay ∧ bx = bx ∧ by' = by' ∧ True) ∧ True ∧ ((111 : Nat) = (111 : Nat) ∧ (0 : Nat) = (0 : Nat) ∧ cx = cx ∧ cy = cy ∧ dx = dx ∧ dy = dy ∧ True) ∧ True ∧ ((100 : Nat) = (100 : Nat) ∧ (0
: Nat) = (0 : Nat) ∧ ax = ax ∧ ay = ay ∧ True) ∧ True ∧ ((100 : Nat) = (100 : Nat) ∧ (0 : Nat) = (0 : Nat) ∧ bx = bx ∧ by' = by' ∧ True) ∧ True ∧ ((100 : Nat) = (100 : Nat) ∧ (0 : Nat) = (0 : Nat) ∧ cx = cx ∧ cy = cy ∧ True) ∧ True ∧ ((100 : Nat) =
(100 : Nat) ∧ (0 : Nat) = (0 : Nat) ∧ dx = dx ∧ dy = dy ∧ True) ∧ True) ∧ ∀ (_ : Nat), True → ((fGt .f64 ay by' = true → (fGt .f64 cy dy = true → (fGt .f64 by' cy = true → R SV.ff) ∧ (fGt .f64 by' cy = false → (fLt .f64
 ay dy = true → R SV.ff) ∧ (fLt .f64 ay dy = false → ∃ (_ : Nat), P1 ∧ ((True ∧ (0 : Nat) = (0 : Nat)) ∧ (True ∧ (0 : Nat) = (0 : Nat)) ∧ (True ∧ (0 : Nat) = (0 : Nat)) ∧ (True ∧ (0 : Nat) = (0 : Nat)) ∧ (True ∧ (0 : Nat) = (0 : Nat)) ∧ (True ∧
(0 : Nat) = (0 : Nat)) ∧ True) ∧ True ∧ ((111 : Nat) = (111 : Nat) ∧ (0 : Nat) = (0 : Nat) ∧ ax = ax ∧ ay = ay ∧ bx = bx ∧ by' = by' ∧ True) ∧ True ∧ ((111 : Nat) = (111 : Nat) ∧ (0 : Nat) = (0 : Nat) ∧ cx = cx ∧ cy = cy ∧ dx = dx ∧ dy = dy ∧ True) ∧
 True ∧ ((100 : Nat) = (100 : Nat) ∧ (0 : Nat) = (0 : Nat) ∧ ax = ax ∧ ay = ay ∧ True) ∧ True ∧ ((100 : Nat) = (100 : Nat) ∧ (0 : Nat) = (0 : Nat) ∧ bx = bx ∧ by' = by' ∧ True) ∧ True ∧ ((100 : Nat) = (100 : Nat) ∧ (0 : Nat) = (0 : Nat) ∧ cx = cx ∧ cy
= cy ∧ True) ∧ True ∧ ((100 : Nat) = (100 : Nat) ∧ (0 : Nat) = (0 : Nat) ∧ dx = dx ∧ dy = dy ∧ True) ∧ True))) ∧ (fGt .f64 cy dy = false → (fGt .f64 by' dy = true → R SV.ff) ∧ (fGt .f64 by' dy = false → (fLt .f64 ay cy = true
→ R SV.ff) ∧ (fLt .f64 ay cy = false → ∃ (_ : Nat), P1 ∧ ((True ∧ (0 : Nat) = (0 : Nat)) ∧ (True ∧ (0 : Nat) = (0 : Nat)) ∧ (True ∧ (0 : Nat) = (0 : Nat)) ∧ (True ∧ (0 : Nat) = (0 : Nat)) ∧ (True ∧ (0 : Nat) = (0 : Nat)) ∧ (True ∧ (0 : Nat) =
(0 : Nat)) ∧ True) ∧ True ∧ ((111 : Nat) = (111 : Nat) ∧ (0 : Nat) = (0 : Nat) ∧ ax = ax ∧ ay = ay ∧ bx = bx ∧ by' = by' ∧ True) ∧ True ∧ ((111 : Nat) = (111 : Nat) ∧ (0 : Nat) = (0 : Nat) ∧ cx = cx ∧ cy = cy ∧ dx = dx ∧ dy = dy ∧ True) ∧ True ∧
((100 : Nat) = (100 : Nat) ∧ (0 : Nat) = (0 : Nat) ∧ ax = ax ∧ ay = ay ∧ True) ∧ True ∧ ((100 : Nat) = (100 : Nat) ∧ (0 : Nat) = (0 : Nat) ∧ bx = bx ∧ by' = by' ∧ True) ∧ True ∧ ((100 : Nat) = (100 : Nat) ∧ (0 : Nat) = (0 : Nat) ∧ cx = cx ∧ cy = cy ∧
 True) ∧ True ∧ ((100 : Nat) = (100 : Nat) ∧ (0 : Nat) = (0 : Nat) ∧ dx = dx ∧ dy = dy ∧ True) ∧ True)))) ∧ (fGt .f64 ay by' = false → (fGt .f64 cy dy = true → (fGt .f64 ay cy = true → R SV.ff) ∧ (fGt .f64 ay cy = false →
(fLt .f64 by' dy = true → R SV.ff) ∧ (fLt .f64 by' dy = false → ∃ (_ : Nat), P1 ∧ ((True ∧ (0 : Nat) = (0 : Nat)) ∧ (True ∧ (0 : Nat) = (0 : Nat)) ∧ (True ∧ (0 : Nat) = (0 : Nat)) ∧ (True ∧ (0 : Nat) = (0 : Nat)) ∧ (True ∧ (0 : Nat) = (0
: Nat)) ∧ (True ∧ (0 : Nat) = (0 : Nat)) ∧ True) ∧ True ∧ ((111 : Nat) = (111 : Nat) ∧ (0 : Nat) = (0 : Nat) ∧ ax = ax ∧ ay = ay ∧ bx = bx ∧ by' = by' ∧ True) ∧ True ∧ ((111 : Nat) = (111 : Nat) ∧ (0 : Nat) = (0 : Nat) ∧ cx = cx ∧ cy = cy ∧ dx = dx ∧
 dy = dy ∧ True) ∧ True ∧ ((100 : Nat) = (100 : Nat) ∧ (0 : Nat) = (0 : Nat) ∧ ax = ax ∧ ay = ay ∧ True) ∧ True ∧ ((100 : Nat) = (100 : Nat) ∧ (0 : Nat) = (0 : Nat) ∧ bx = bx ∧ by' = by' ∧ True) ∧ True ∧ ((100 : Nat) = (100 : Nat) ∧ (0 : Nat) = (0 :
 Nat) ∧ cx = cx ∧ cy = cy ∧ True) ∧ True ∧ ((100 : Nat) = (100 : Nat) ∧ (0 : Nat) = (0 : Nat) ∧ dx = dx ∧ dy = dy ∧ True) ∧ True))) ∧ (fGt .f64 cy dy = false → (fGt .f64 ay dy = true → R SV.ff) ∧ (fGt .f64 ay dy = false → (fLt
.f64 by' cy = true → R SV.ff) ∧ (fLt .f64 by' cy = false → ∃ (_ : Nat), P1 ∧ ((True ∧ (0 : Nat) = (0 : Nat)) ∧ (True ∧ (0 : Nat) = (0 : Nat)) ∧ (True ∧ (0 : Nat) = (0 : Nat)) ∧ (True ∧ (0 : Nat) = (0 : Nat)) ∧ (True ∧ (0 : Nat) = (0 : Nat)) ∧
(True ∧ (0 : Nat) = (0 : Nat)) ∧ True) ∧ True ∧ ((111 : Nat) = (111 : Nat) ∧ (0 : Nat) = (0 : Nat) ∧ ax = ax ∧ ay = ay ∧ bx = bx ∧ by' = by' ∧ True) ∧ True ∧ ((111 : Nat) = (111 : Nat) ∧ (0 : Nat) = (0 : Nat) ∧ cx = cx ∧ cy = cy ∧ dx = dx ∧ dy = dy ∧
 True) ∧ True ∧ ((100 : Nat) = (100 : Nat) ∧ (0 : Nat) = (0 : Nat) ∧ ax = ax ∧ ay = ay ∧ True) ∧ True ∧ ((100 : Nat) = (100 : Nat) ∧ (0 : Nat) = (0 : Nat) ∧ bx = bx ∧ by' = by' ∧ True) ∧ True ∧ ((100 : Nat) = (100 : Nat) ∧ (0 : Nat) = (0 : Nat) ∧ cx =
 cx ∧ cy = cy ∧ True) ∧ True ∧ ((100 : Nat) = (100 : Nat) ∧ (0 : Nat) = (0 : Nat) ∧ dx = dx ∧ dy = dy ∧ True) ∧ True))))) ∧ ∀ (_ : Nat), P1 → ((fGt .f64 ax bx = true → (fGt .f64 cx dx = true → (fGt .f64 bx cx = true → R SV.ff) ∧
(fGt .f64 bx cx = false → (fLt .f64 ax dx = true → R SV.ff) ∧ (fLt .f64 ax dx = false → ∃ (_ : Nat), P2 ∧ ((True ∧ (0 : Nat) = (0 : Nat)) ∧ (True ∧ (0 : Nat) = (0 : Nat)) ∧ (True ∧ (0 : Nat) = (0 : Nat)) ∧ (True ∧ (0 : Nat) = (0 :
 Nat)) ∧ (True ∧ (0 : Nat) = (0 : Nat)) ∧ (True ∧ (0 : Nat) = (0 : Nat)) ∧ True) ∧ True ∧ ((111 : Nat) = (111 : Nat) ∧ (0 : Nat) = (0 : Nat) ∧ ax = ax ∧ ay = ay ∧ bx = bx ∧ by' = by' ∧ True) ∧ True ∧ ((111 : Nat) = (111 : Nat) ∧ (0 : Nat) = (0 : Nat)
∧ cx = cx ∧ cy = cy ∧ dx = dx ∧ dy = dy ∧ True) ∧ True ∧ ((100 : Nat) = (100 : Nat) ∧ (0 : Nat) = (0 : Nat) ∧ ax = ax ∧ ay = ay ∧ True) ∧ True ∧ ((100 : Nat) = (100 : Nat) ∧ (0 : Nat) = (0 : Nat) ∧ bx = bx ∧ by' = by' ∧ True) ∧ True ∧ ((100 : Nat) =
(100 : Nat) ∧ (0 : Nat) = (0 : Nat) ∧ cx = cx ∧ cy = cy ∧ True) ∧ True ∧ ((100 : Nat) = (100 : Nat) ∧ (0 : Nat) = (0 : Nat) ∧ dx = dx ∧ dy = dy ∧ True) ∧ True))) ∧ (fGt .f64 cx dx = false → (fGt .f64 bx dx = true → R SV.ff) ∧ (fGt
.f64 bx dx = false → (fLt .f64 ax cx = true → R SV.ff) ∧ (fLt .f64 ax cx = false → ∃ (_ : Nat), P2 ∧ ((True ∧ (0 : Nat) = (0 : Nat)) ∧ (True ∧ (0 : Nat) = (0 : Nat)) ∧ (True ∧ (0 : Nat) = (0 : Nat)) ∧ (True ∧ (0 : Nat) = (0 : Nat)) ∧
(True ∧ (0 : Nat) = (0 : Nat)) ∧ (True ∧ (0 : Nat) = (0 : Nat)) ∧ True) ∧ True ∧ ((111 : Nat) = (111 : Nat) ∧ (0 : Nat) = (0 : Nat) ∧ ax = ax ∧ ay = ay ∧ bx = bx ∧ by' = by' ∧ True) ∧ True ∧ ((111 : Nat) = (111 : Nat) ∧ (0 : Nat) = (0 : Nat) ∧ cx =
 cx ∧ cy = cy ∧ dx = dx ∧ dy = dy ∧ True) ∧ True ∧ ((100 : Nat) = (100 : Nat) ∧ (0 : Nat) = (0 : Nat) ∧ ax = ax ∧ ay = ay ∧ True) ∧ True ∧ ((100 : Nat) = (100 : Nat) ∧ (0 : Nat) = (0 : Nat) ∧ bx = bx ∧ by' = by' ∧ True) ∧ True ∧ ((100 : Nat) = (100 :
 Nat) ∧ (0 : Nat) = (0 : Nat) ∧ cx = cx ∧ cy = cy ∧ True) ∧ True ∧ ((100 : Nat) = (100 : Nat) ∧ (0 : Nat) = (0 : Nat) ∧ dx = dx ∧ dy = dy ∧ True) ∧ True)))) ∧ (fGt .f64 ax bx = false → (fGt .f64 cx dx = true → (fGt .f64 ax cx = true
→ R SV.ff) ∧ (fGt .f64 ax cx = false → (fLt .f64 bx dx = true → R SV.ff) ∧ (fLt .f64 bx dx = false → ∃ (_ : Nat), P2 ∧ ((True ∧ (0 : Nat) = (0 : Nat)) ∧ (True ∧ (0 : Nat) = (0 : Nat)) ∧ (True ∧ (0 : Nat) = (0 : Nat)) ∧ (True ∧ (0 :
 Nat) = (0 : Nat)) ∧ (True ∧ (0 : Nat) = (0 : Nat)) ∧ (True ∧ (0 : Nat) = (0 : Nat)) ∧ True) ∧ True ∧ ((111 : Nat) = (111 : Nat) ∧ (0 : Nat) = (0 : Nat) ∧ ax = ax ∧ ay = ay ∧ bx = bx ∧ by' = by' ∧ True) ∧ True ∧ ((111 : Nat) = (111 : Nat) ∧ (0 : Nat)
= (0 : Nat) ∧ cx = cx ∧ cy = cy ∧ dx = dx ∧ dy = dy ∧ True) ∧ True ∧ ((100 : Nat) = (100 : Nat) ∧ (0 : Nat) = (0 : Nat) ∧ ax = ax ∧ ay = ay ∧ True) ∧ True ∧ ((100 : Nat) = (100 : Nat) ∧ (0 : Nat) = (0 : Nat) ∧ bx = bx ∧ by' = by' ∧ True) ∧ True ∧
((100 : Nat) = (100 : Nat) ∧ (0 : Nat) = (0 : Nat) ∧ cx = cx ∧ cy = cy ∧ True) ∧ True ∧ ((100 : Nat) = (100 : Nat) ∧ (0 : Nat) = (0 : Nat) ∧ dx = dx ∧ dy = dy ∧ True) ∧ True))) ∧ (fGt .f64 cx dx = false → (fGt .f64 ax dx = true → R SV.ff)
∧ (fGt .f64 ax dx = false → (fLt .f64 bx cx = true → R SV.ff) ∧ (fLt .f64 bx cx = false → ∃ (_ : Nat), P2 ∧ ((True ∧ (0 : Nat) = (0 : Nat)) ∧ (True ∧ (0 : Nat) = (0 : Nat)) ∧ (True ∧ (0 : Nat) = (0 : Nat)) ∧ (True ∧ (0 : Nat) = (0 :
 Nat)) ∧ (True ∧ (0 : Nat) = (0 : Nat)) ∧ (True ∧ (0 : Nat) = (0 : Nat)) ∧ True) ∧ True ∧ ((111 : Nat) = (111 : Nat) ∧ (0 : Nat) = (0 : Nat) ∧ ax = ax ∧ ay = ay ∧ bx = bx ∧ by' = by' ∧ True) ∧ True ∧ ((111 : Nat) = (111 : Nat) ∧ (0 : Nat) = (0 : Nat)
∧ cx = cx ∧ cy = cy ∧ dx = dx ∧ dy = dy ∧ True) ∧ True ∧ ((100 : Nat) = (100 : Nat) ∧ (0 : Nat) = (0 : Nat) ∧ ax = ax ∧ ay = ay ∧ True) ∧ True ∧ ((100 : Nat) = (100 : Nat) ∧ (0 : Nat) = (0 : Nat) ∧ bx = bx ∧ by' = by' ∧ True) ∧ True ∧ ((100 : Nat) =
(100 : Nat) ∧ (0 : Nat) = (0 : Nat) ∧ cx = cx ∧ cy = cy ∧ True) ∧ True ∧ ((100 : Nat) = (100 : Nat) ∧ (0 : Nat) = (0 : Nat) ∧ dx = dx ∧ dy = dy ∧ True) ∧ True))))) ∧ ∀ (_ : Nat), P2 → (((fEq .f64 ax cx && (fEq .f64 ay cy && true)) = true
→ R SV.tt) ∧ ((fEq .f64 ax cx && (fEq .f64 ay cy && true)) = false → ((fEq .f64 ax dx && (fEq .f64 ay dy && true)) = true → R SV.tt) ∧ ((fEq .f64 ax dx && (fEq .f64 ay dy && true)) = false → ((fEq .f64 bx cx
&& (fEq .f64 by' cy && true)) = true → R SV.tt) ∧ ((fEq .f64 bx cx && (fEq .f64 by' cy && true)) = false → ((fEq .f64 bx dx && (fEq .f64 by' dy && true)) = true → R SV.tt) ∧ ((fEq .f64 bx dx && (fEq .f64 by'
 dy && true)) = false → ∃ (_ : Nat), P3 ∧ ((True ∧ (0 : Nat) = (0 : Nat)) ∧ (True ∧ (0 : Nat) = (0 : Nat)) ∧ (True ∧ (0 : Nat) = (0 : Nat)) ∧ (True ∧ (0 : Nat) = (0 : Nat)) ∧ (True ∧ (0 : Nat) = (0 : Nat)) ∧ (True ∧ (0 : Nat) = (0 : Nat)) ∧ True) ∧
 True ∧ ((111 : Nat) = (111 : Nat) ∧ (0 : Nat) = (0 : Nat) ∧ ax = ax ∧ ay = ay ∧ bx = bx ∧ by' = by' ∧ True) ∧ True ∧ ((111 : Nat) = (111 : Nat) ∧ (0 : Nat) = (0 : Nat) ∧ cx = cx ∧ cy = cy ∧ dx = dx ∧ dy = dy ∧ True) ∧ True ∧ ((100 : Nat) = (100 :
 Nat) ∧ (0 : Nat) = (0 : Nat) ∧ ax = ax ∧ ay = ay ∧ True) ∧ True ∧ ((100 : Nat) = (100 : Nat) ∧ (0 : Nat) = (0 : Nat) ∧ bx = bx ∧ by' = by' ∧ True) ∧ True ∧ ((100 : Nat) = (100 : Nat) ∧ (0 : Nat) = (0 : Nat) ∧ cx = cx ∧ cy = cy ∧ True) ∧ True ∧ ((100
: Nat) = (100 : Nat) ∧ (0 : Nat) = (0 : Nat) ∧ dx = dx ∧ dy = dy ∧ True) ∧ True))))) ∧ ∀ (_ : Nat), P3 → fok BinOp.sub .f64 cx ax ∧ fok BinOp.sub .f64 cy ay ∧ true = true ∧ fok BinOp.sub .f64 bx ax ∧ fok BinOp.sub .f64 by' ay
∧ true = true ∧ (fok BinOp.mul .f64 (fop BinOp.sub .f64 cx ax) (fop BinOp.sub .f64 by' ay) ∧ fok BinOp.mul .f64 (fop BinOp.sub .f64 cy ay) (fop BinOp.sub .f64 bx ax) ∧ fok BinOp.sub .f64 (fop BinOp.mul
.f64 (fop BinOp.sub .f64 cx ax) (fop BinOp.sub .f64 by' ay)) (fop BinOp.mul .f64 (fop BinOp.sub .f64 cy ay) (fop BinOp.sub .f64 bx ax)) ∧ ∃ (_ : Nat), P3 ∧ (fop BinOp.sub .f64 cx ax = D cx ax ∧
 fop BinOp.sub .f64 cy ay = D cy ay ∧ fop BinOp.sub .f64 bx ax = D bx ax ∧ fop BinOp.sub .f64 by' ay = D by' ay ∧ fop BinOp.sub .f64 (fop BinOp.mul .f64 (fop
 BinOp.sub .f64 cx ax) (fop BinOp.sub .f64 by' ay)) (fop BinOp.mul .f64 (fop BinOp.sub .f64 cy ay) (fop BinOp.sub .f64 bx ax)) = CR (D cx ax) (D cy ay) (D
 bx ax) (D by' ay) ∧ (True ∧ (0 : Nat) = (0 : Nat)) ∧ (True ∧ (0 : Nat) = (0 : Nat)) ∧ (True ∧ (0 : Nat) = (0 : Nat)) ∧ (True ∧ (0 : Nat) = (0 : Nat)) ∧ (True ∧ (0 : Nat) = (0 : Nat)) ∧ (True ∧ (0 : Nat) = (0 : Nat)) ∧ True) ∧ True ∧
((111 : Nat) = (111 : Nat) ∧ (0 : Nat) = (0 : Nat) ∧ ax = ax ∧ ay = ay ∧ bx = bx ∧ by' = by' ∧ True) ∧ True ∧ ((111 : Nat) = (111 : Nat) ∧ (0 : Nat) = (0 : Nat) ∧ cx = cx ∧ cy = cy ∧ dx = dx ∧ dy = dy ∧ True) ∧ True ∧ ((100 : Nat) = (100 : Nat) ∧ (0
: Nat) = (0 : Nat) ∧ ax = ax ∧ ay = ay ∧ True) ∧ True ∧ ((100 : Nat) = (100 : Nat) ∧ (0 : Nat) = (0 : Nat) ∧ bx = bx ∧ by' = by' ∧ True) ∧ True ∧ ((100 : Nat) = (100 : Nat) ∧ (0 : Nat) = (0 : Nat) ∧ cx = cx ∧ cy = cy ∧ True) ∧ True ∧ ((100 : Nat) =
(100 : Nat) ∧ (0 : Nat) = (0 : Nat) ∧ dx = dx ∧ dy = dy ∧ True) ∧ True) ∧ ∀ (_ : Nat), P3 → (((!(fLt .f64 (CR (D cx ax) (D cy ay) (D bx ax) (D by' ay)) (0
: Nat) || fGt .f64 (CR (D cx ax) (D cy ay) (D bx ax) (D by' ay)) (0 : Nat))) = true → fok BinOp.sub .f64 cx ax ∧ fok BinOp.sub .f64 cx bx ∧
((!fLe .f64 (fop BinOp.sub .f64 cx ax) (0 : Nat) == fLe .f64 (fop BinOp.sub .f64 cx bx) (0 : Nat)) = true → R SV.tt) ∧ ((!fLe .f64 (fop BinOp.sub .f64 cx ax) (0 : Nat) == fLe .f64 (fop BinOp.sub .f64 cx
 bx) (0 : Nat)) = false → fok BinOp.sub .f64 cy ay ∧ fok BinOp.sub .f64 cy by' ∧ ((!!fLe .f64 (fop BinOp.sub .f64 cy ay) (0 : Nat) == fLe .f64 (fop BinOp.sub .f64 cy by') (0 : Nat)) = true → Pts ax
 ay bx by' cx cy (wh ax) (wh ay) (wh bx) (wh by') (wh cx) (wh cy) ∧ (decide (Go.Geo.On (wh ax) (wh ay)
(wh bx) (wh by') (wh cx) (wh cy)) = true → R SV.tt) ∧ (decide (Go.Geo.On (wh ax) (wh ay) (wh bx) (wh by')
(wh cx) (wh cy)) = false → Pts ax ay bx by' dx dy (wh ax) (wh ay) (wh bx) (wh by') (wh dx)
(wh dy) ∧ R (SV.bool (decide (Go.Geo.On (wh ax) (wh ay) (wh bx) (wh by') (wh dx) (wh dy)))))) ∧ ((!!fLe .f64
(fop BinOp.sub .f64 cy ay) (0 : Nat) == fLe .f64 (fop BinOp.sub .f64 cy by') (0 : Nat)) = false → R SV.tt))) ∧ ((!(fLt .f64 (CR (D cx ax) (D cy ay) (D bx
 ax) (D by' ay)) (0 : Nat) || fGt .f64 (CR (D cx ax) (D cy ay) (D bx ax) (D by' ay)) (0 : Nat))) = false → ∃ (_ : Nat), P4 ∧
(D cx ax = D cx ax ∧ D cy ay = D cy ay ∧ D bx ax = D bx ax ∧ D by' ay = D by' ay ∧ CR
(D cx ax) (D cy ay) (D bx ax) (D by' ay) = CR (D cx ax) (D cy ay) (D bx ax) (D by' ay) ∧
(True ∧ (0 : Nat) = (0 : Nat)) ∧ (True ∧ (0 : Nat) = (0 : Nat)) ∧ (True ∧ (0 : Nat) = (0 : Nat)) ∧ (True ∧ (0 : Nat) = (0 : Nat)) ∧ (True ∧ (0 : Nat) = (0 : Nat)) ∧ (True ∧ (0 : Nat) = (0 : Nat)) ∧ True) ∧ True ∧ ((111 : Nat) = (111 : Nat) ∧ (0 :
 Nat) = (0 : Nat) ∧ ax = ax ∧ ay = ay ∧ bx = bx ∧ by' = by' ∧ True) ∧ True ∧ ((111 : Nat) = (111 : Nat) ∧ (0 : Nat) = (0 : Nat) ∧ cx = cx ∧ cy = cy ∧ dx = dx ∧ dy = dy ∧ True) ∧ True ∧ ((100 : Nat) = (100 : Nat) ∧ (0 : Nat) = (0 : Nat) ∧ ax = ax ∧ ay
= ay ∧ True) ∧ True ∧ ((100 : Nat) = (100 : Nat) ∧ (0 : Nat) = (0 : Nat) ∧ bx = bx ∧ by' = by' ∧ True) ∧ True ∧ ((100 : Nat) = (100 : Nat) ∧ (0 : Nat) = (0 : Nat) ∧ cx = cx ∧ cy = cy ∧ True) ∧ True ∧ ((100 : Nat) = (100 : Nat) ∧ (0 : Nat) = (0 : Nat)
∧ dx = dx ∧ dy = dy ∧ True) ∧ True)) ∧ ∀ (_ : Nat), P4 → fok BinOp.sub .f64 dx cx ∧ fok BinOp.sub .f64 dy cy ∧ true = true ∧ fok BinOp.mul .f64 (D cx ax) (fop BinOp.sub .f64 dy cy) ∧ fok BinOp.mul .f64
(D cy ay) (fop BinOp.sub .f64 dx cx) ∧ fok BinOp.sub .f64 (fop BinOp.mul .f64 (D cx ax) (fop BinOp.sub .f64 dy cy)) (fop BinOp.mul .f64 (D cy ay) (fop BinOp.sub
.f64 dx cx)) ∧ (fok BinOp.mul .f64 (D bx ax) (fop BinOp.sub .f64 dy cy) ∧ fok BinOp.mul .f64 (D by' ay) (fop BinOp.sub .f64 dx cx) ∧ fok BinOp.sub .f64 (fop BinOp.mul .f64
(D bx ax) (fop BinOp.sub .f64 dy cy)) (fop BinOp.mul .f64 (D by' ay) (fop BinOp.sub .f64 dx cx)) ∧ ∃ (_ : Nat), P4 ∧ (CR (D cx ax) (D cy ay)
(D bx ax) (D by' ay) = CR (D cx ax) (D cy ay) (D bx ax) (D by' ay) ∧ fop BinOp.sub .f64 (fop BinOp.mul .f64
(D cx ax) (fop BinOp.sub .f64 dy cy)) (fop BinOp.mul .f64 (D cy ay) (fop BinOp.sub .f64 dx cx)) = CR (D cx ax) (D cy ay) (D
 dx cx) (D dy cy) ∧ fop BinOp.sub .f64 (fop BinOp.mul .f64 (D bx ax) (fop BinOp.sub .f64 dy cy)) (fop BinOp.mul .f64 (D by' ay) (fop BinOp.sub .f64 dx cx)) =
 CR (D bx ax) (D by' ay) (D dx cx) (D dy cy) ∧ (True ∧ (0 : Nat) = (0 : Nat)) ∧ (True ∧ (0 : Nat) = (0 : Nat)) ∧ (True ∧ (0 : Nat) = (0 : Nat)) ∧ (True ∧ (0 :
 Nat) = (0 : Nat)) ∧ (True ∧ (0 : Nat) = (0 : Nat)) ∧ (True ∧ (0 : Nat) = (0 : Nat)) ∧ True) ∧ True ∧ ((111 : Nat) = (111 : Nat) ∧ (0 : Nat) = (0 : Nat) ∧ ax = ax ∧ ay = ay ∧ bx = bx ∧ by' = by' ∧ True) ∧ True ∧ ((111 : Nat) = (111 : Nat) ∧ (0 : Nat)
= (0 : Nat) ∧ cx = cx ∧ cy = cy ∧ dx = dx ∧ dy = dy ∧ True) ∧ True ∧ ((100 : Nat) = (100 : Nat) ∧ (0 : Nat) = (0 : Nat) ∧ ax = ax ∧ ay = ay ∧ True) ∧ True ∧ ((100 : Nat) = (100 : Nat) ∧ (0 : Nat) = (0 : Nat) ∧ bx = bx ∧ by' = by' ∧ True) ∧ True ∧
((100 : Nat) = (100 : Nat) ∧ (0 : Nat) = (0 : Nat) ∧ cx = cx ∧ cy = cy ∧ True) ∧ True ∧ ((100 : Nat) = (100 : Nat) ∧ (0 : Nat) = (0 : Nat) ∧ dx = dx ∧ dy = dy ∧ True) ∧ True) ∧ ∀ (_ : Nat), P4 → (((!(fLt .f64 (CR
(D bx ax) (D by' ay) (D dx cx) (D dy cy)) (0 : Nat) || fGt .f64 (CR (D bx ax) (D by' ay) (D dx cx)
(D dy cy)) (0 : Nat))) = true → R SV.ff) ∧ ((!(fLt .f64 (CR (D bx ax) (D by' ay) (D dx cx) (D dy cy)) (0 : Nat) || fGt .f64
(CR (D bx ax) (D by' ay) (D dx cx) (D dy cy)) (0 : Nat))) = false → ∃ (_ : Nat), P5 ∧ (CR (D cx ax) (D cy
 ay) (D bx ax) (D by' ay) = CR (D cx ax) (D cy ay) (D bx ax) (D by' ay) ∧ CR (D cx ax)
(D cy ay) (D dx cx) (D dy cy) = CR (D cx ax) (D cy ay) (D dx cx) (D dy cy) ∧ CR
(D bx ax) (D by' ay) (D dx cx) (D dy cy) = CR (D bx ax) (D by' ay) (D dx cx) (D dy cy) ∧
(True ∧ (0 : Nat) = (0 : Nat)) ∧ (True ∧ (0 : Nat) = (0 : Nat)) ∧ (True ∧ (0 : Nat) = (0 : Nat)) ∧ (True ∧ (0 : Nat) = (0 : Nat)) ∧ (True ∧ (0 : Nat) = (0 : Nat)) ∧ (True ∧ (0 : Nat) = (0 : Nat)) ∧ True) ∧ True ∧ ((111 : Nat) = (111 : Nat) ∧ (0 :
 Nat) = (0 : Nat) ∧ ax = ax ∧ ay = ay ∧ bx = bx ∧ by' = by' ∧ True) ∧ True ∧ ((111 : Nat) = (111 : Nat) ∧ (0 : Nat) = (0 : Nat) ∧ cx = cx ∧ cy = cy ∧ dx = dx ∧ dy = dy ∧ True) ∧ True ∧ ((100 : Nat) = (100 : Nat) ∧ (0 : Nat) = (0 : Nat) ∧ ax = ax ∧ ay
= ay ∧ True) ∧ True ∧ ((100 : Nat) = (100 : Nat) ∧ (0 : Nat) = (0 : Nat) ∧ bx = bx ∧ by' = by' ∧ True) ∧ True ∧ ((100 : Nat) = (100 : Nat) ∧ (0 : Nat) = (0 : Nat) ∧ cx = cx ∧ cy = cy ∧ True) ∧ True ∧ ((100 : Nat) = (100 : Nat) ∧ (0 : Nat) = (0 : Nat)
∧ dx = dx ∧ dy = dy ∧ True) ∧ True)) ∧ ∀ (_ : Nat), P5 → ∀ (r : Nat), QuoRel .f64 (4607182418800017408 : Nat) (CR (D bx ax) (D by' ay) (D dx cx) (D dy
 cy)) r → fok BinOp.mul .f64 (CR (D cx ax) (D cy ay) (D dx cx) (D dy cy)) r ∧ fok BinOp.mul .f64 (CR (D cx ax)
(D cy ay) (D bx ax) (D by' ay)) r ∧ (fGe .f64 (fop BinOp.mul .f64 (CR (D cx ax) (D cy ay) (D dx cx)
(D dy cy)) r) (0 : Nat) = true → (fLe .f64 (fop BinOp.mul .f64 (CR (D cx ax) (D cy ay) (D dx cx) (D dy cy)) r)
(4607182418800017408 : Nat) = true → (fGe .f64 (fop BinOp.mul .f64 (CR (D cx ax) (D cy ay) (D bx ax) (D by' ay)) r) (0 : Nat) = true → ((!fLe
.f64 (fop BinOp.mul .f64 (CR (D cx ax) (D cy ay) (D bx ax) (D by' ay)) r) (4607182418800017408 : Nat)) = true → R SV.ff) ∧ ((!fLe .f64 (fop
 BinOp.mul .f64 (CR (D cx ax) (D cy ay) (D bx ax) (D by' ay)) r) (4607182418800017408 : Nat)) = false → R SV.tt)) ∧ (fGe .f64 (fop BinOp.mul .f64
(CR (D cx ax) (D cy ay) (D bx ax) (D by' ay)) r) (0 : Nat) = false → R SV.ff)) ∧ (fLe .f64 (fop BinOp.mul .f64 (CR
(D cx ax) (D cy ay) (D dx cx) (D dy cy)) r) (4607182418800017408 : Nat) = false → R SV.ff)) ∧ (fGe .f64 (fop BinOp.mul .f64 (CR (D
 cx ax) (D cy ay) (D dx cx) (D dy cy)) r) (0 : Nat) = false → R SV.ff)) := by kernel_rfl
theorem sub_w {x y : Nat} {a b : Int} (hx : FI x a) (hy : FI y b) (ha : small a) (hb : small b) : fok .sub .f64 x y ∧ FI (fop .sub .f64 x y) (a - b) ∧ (a - b).natAbs ≤ 2097152 := by
 have := sub_I hx hy (by unfold small at ha; omega) (by unfold small at hb; omega)
 exact ⟨this.1, this.2, by unfold small at ha hb; omega⟩
theorem cr_w {x y z w : Nat} {a b c d : Int} (hx : FI x a) (hy : FI y b) (hz : FI z c) (hw : FI w d) (ha : a.natAbs ≤ 2097152) (hb : b.natAbs ≤ 2097152) (hc : c.natAbs ≤ 2097152) (hd : d.natAbs ≤ 2097152) :
   fok .mul .f64 x w ∧ fok .mul .f64 y z ∧ fok .sub .f64 (fop .mul .f64 x w) (fop .mul .f64 y z) ∧ FI (CR x y z w) (xp a b c d) ∧ (xp a b c d).natAbs ≤ 2 ^ 44 := by
 have b1 := mul_bound ha hd
 have b2 := mul_bound hb hc
 obtain ⟨m1, m2⟩ := mul_of hx hw (by omega)
 obtain ⟨m3, m4⟩ := mul_of hy hz (by omega)
 obtain ⟨r, h1, h2⟩ := FI_sub m2 m4 (by omega)
 obtain ⟨h3, h4⟩ := fop_of (op := .sub) h1
 refine ⟨m1, m3, h3, ?_, ?_⟩
 · show FI (fop .sub .f64 (fop .mul .f64 x w) (fop .mul .f64 y z)) _
   rw [h4]; exact h2
 · unfold xp; omega
theorem zt {v : Nat} {n : Int} (h : FI v n) : (!(fLt .f64 v 0 || fGt .f64 v 0)) = decide (n = 0) := by
 rw [flt_I h zero_FI, fgt_I h zero_FI]
 grind
theorem le0 {v : Nat} {n : Int} (h : FI v n) : fLe .f64 v 0 = decide (n ≤ 0) := fle_I h zero_FI
theorem isec_run {ax ay bx by' cx cy dx dy : Nat} {a1 a2 b1 b2 c1 c2 d1 d2 : Int} (H : P8 ax ay bx by' cx cy dx dy a1 a2 b1 b2 c1 c2 d1 d2) :
   ∃ A B, runA GIS 0 A B (codeOf Tryz.f210) (init 300 [.agg [.flt .f64 ax, .flt .f64 ay, .flt .f64 bx, .flt .f64 by'], .agg [.flt .f64 cx, .flt .f64 cy, .flt .f64 dx, .flt .f64 dy]] [] 0) (endK GIS.E.T Tryz.f210.results.toList fun _ v => eqv v (.bool (decide (Isec a1 a2 b1 b2 c1 c2 d1 d2)))) := by
 refine ⟨_, _, (vc_isec _ (yMeet a2 b2 c2 d2) (yMeet a2 b2 c2 d2 ∧ yMeet a1 b1 c1 d1) (yMeet a2 b2 c2 d2 ∧ yMeet a1 b1 c1 d1 ∧ noEnds a1 a2 b1 b2 c1 c2 d1 d2)
   (yMeet a2 b2 c2 d2 ∧ yMeet a1 b1 c1 d1 ∧ noEnds a1 a2 b1 b2 c1 c2 d1 d2 ∧ xp (c1 - a1) (c2 - a2) (b1 - a1) (b2 - a2) ≠ 0)
   (yMeet a2 b2 c2 d2 ∧ yMeet a1 b1 c1 d1 ∧ noEnds a1 a2 b1 b2 c1 c2 d1 d2 ∧ xp (c1 - a1) (c2 - a2) (b1 - a1) (b2 - a2) ≠ 0 ∧ xp (b1 - a1) (b2 - a2) (d1 - c1) (d2 - c2) ≠ 0) ax ay bx by' cx cy dx dy).mpr ?_⟩
 obtain ⟨⟨sa1, sa2, sb1, sb2⟩, sc1, sc2, sd1, sd2⟩ := H.s
 obtain ⟨k1, f1, n1⟩ := sub_w H.cx H.ax sc1 sa1
 obtain ⟨k2, f2, n2⟩ := sub_w H.cy H.ay sc2 sa2
 obtain ⟨k3, f3, n3⟩ := sub_w H.bx H.ax sb1 sa1
 obtain ⟨k4, f4, n4⟩ := sub_w H.by' H.ay sb2 sa2
 obtain ⟨k5, f5, n5⟩ := sub_w H.dx H.cx sd1 sc1
 obtain ⟨k6, f6, n6⟩ := sub_w H.dy H.cy sd2 sc2
 obtain ⟨k7, f7, _⟩ := sub_w H.cx H.bx sc1 sb1
 obtain ⟨k8, f8, _⟩ := sub_w H.cy H.by' sc2 sb2
 obtain ⟨u1, u2, u3, fu, nu⟩ := cr_w f1 f2 f3 f4 n1 n2 n3 n4
 obtain ⟨t1, t2, t3, ft, nt⟩ := cr_w f1 f2 f5 f6 n1 n2 n5 n6
 obtain ⟨w1, w2, w3, fw, nw⟩ := cr_w f3 f4 f5 f6 n3 n4 n5 n6
 simp only [eqv]
 refine ⟨⟨trivial, 0, trivial, by simp⟩, fun _ _ => ⟨?_, fun _ h1 => ⟨?_, fun _ h2 => ⟨?_, fun _ h3 => ?_⟩⟩⟩⟩
 · rw [fgt_I H.ay H.by', fgt_I H.cy H.dy, fgt_I H.by' H.cy, flt_I H.ay H.dy, fgt_I H.by' H.dy, flt_I H.ay H.cy, fgt_I H.ay H.cy, flt_I H.by' H.dy, fgt_I H.ay H.dy, flt_I H.by' H.cy]
   clear fu ft fw nu nt nw u1 u2 u3 t1 t2 t3 w1 w2 w3 f1 f2 f3 f4 f5 f6 f7 f8 k1 k2 k3 k4 k5 k6 k7 k8 n1 n2 n3 n4 n5 n6
   repeat' (first | (intro h) | (refine And.intro ?_ ?_))
   all_goals simp only [decide_eq_true_eq, decide_eq_false_iff_not, Int.not_lt] at *
   all_goals first
     | (intro hh; have := hh.1; unfold yMeet at this; omega)
     | exact ⟨0, by unfold yMeet; omega, by simp⟩
 · rw [fgt_I H.ax H.bx, fgt_I H.cx H.dx, fgt_I H.bx H.cx, flt_I H.ax H.dx, fgt_I H.bx H.dx, flt_I H.ax H.cx, fgt_I H.ax H.cx, flt_I H.bx H.dx, fgt_I H.ax H.dx, flt_I H.bx H.cx]
   clear fu ft fw nu nt nw u1 u2 u3 t1 t2 t3 w1 w2 w3 f1 f2 f3 f4 f5 f6 f7 f8 k1 k2 k3 k4 k5 k6 k7 k8 n1 n2 n3 n4 n5 n6
   repeat' (first | (intro h) | (refine And.intro ?_ ?_))
   all_goals simp only [decide_eq_true_eq, decide_eq_false_iff_not, Int.not_lt] at *
   all_goals first
     | (intro hh; have := hh.2.1; unfold yMeet at this; omega)
     | exact ⟨0, ⟨h1, by unfold yMeet; omega⟩, by simp⟩
 · rw [feq_I H.ax H.cx, feq_I H.ay H.cy, feq_I H.ax H.dx, feq_I H.ay H.dy, feq_I H.bx H.cx, feq_I H.by' H.cy, feq_I H.bx H.dx, feq_I H.by' H.dy]
   clear fu ft fw nu nt nw u1 u2 u3 t1 t2 t3 w1 w2 w3 f1 f2 f3 f4 f5 f6 f7 f8 k1 k2 k3 k4 k5 k6 k7 k8 n1 n2 n3 n4 n5 n6
   refine ⟨fun e => ?_, fun e1 => ⟨fun e => ?_, fun e2 => ⟨fun e => ?_, fun e3 => ⟨fun e => ?_, fun e4 => ⟨0, ⟨h2.1, h2.2, fun hh => ?_⟩, by simp⟩⟩⟩⟩⟩
   · exact decide_eq_true ⟨h2.1, h2.2, .inl fun hn => hn (.inl (by simpa using e))⟩
   · exact decide_eq_true ⟨h2.1, h2.2, .inl fun hn => hn (.inr (.inl (by simpa using e)))⟩
   · exact decide_eq_true ⟨h2.1, h2.2, .inl fun hn => hn (.inr (.inr (.inl (by simpa using e))))⟩
   · exact decide_eq_true ⟨h2.1, h2.2, .inl fun hn => hn (.inr (.inr (.inr (by simpa using e))))⟩
   · simp at e1 e2 e3 e4
     rcases hh with ⟨g1, g2⟩ | ⟨g1, g2⟩ | ⟨g1, g2⟩ | ⟨g1, g2⟩
     · exact e1 g1 g2
     · exact e2 g1 g2
     · exact e3 g1 g2
     · exact e4 g1 g2
 · simp only [k1, k2, k3, k4, k5, k6, k7, k8, u1, u2, u3, t1, t2, t3, w1, w2, w3, true_and, zt fu, zt fw, le0 f1, le0 f2, le0 f7, le0 f8]
   refine ⟨⟨0, h3, by simp⟩, fun _ h3 => ⟨⟨fun h0 => ?_, fun h0 => ?_⟩, fun _ h4 => ⟨?_, fun _ h4 => ⟨⟨fun h0 => ?_, fun h0 => ?_⟩, fun _ h5 => ?_⟩⟩⟩⟩
   · have hu := of_decide_eq_true h0
     rw [wh_FI H.ax, wh_FI H.ay, wh_FI H.bx, wh_FI H.by', wh_FI H.cx, wh_FI H.cy, wh_FI H.dx, wh_FI H.dy]
     have hp1 : Pts ax ay bx by' cx cy a1 a2 b1 b2 c1 c2 := by
       unfold small at *
       exact ⟨H.ax, H.ay, H.bx, H.by', H.cx, H.cy, by omega, by omega, by omega, by omega, by omega, by omega⟩
     have hp2 : Pts ax ay bx by' dx dy a1 a2 b1 b2 d1 d2 := by
       unfold small at *
       exact ⟨H.ax, H.ay, H.bx, H.by', H.dx, H.dy, by omega, by omega, by omega, by omega, by omega, by omega⟩
     have hh : ∀ a b c : Int, ((!(decide (c - a ≤ 0) == decide (c - b ≤ 0))) = true ↔ half a b c) := by
       intro a b c
       by_cases g1 : c - a ≤ 0 <;> by_cases g2 : c - b ≤ 0 <;> simp [g1, g2] <;> (unfold half; omega)
     refine ⟨fun e => decide_eq_true ⟨h3.1, h3.2.1, .inr (.inl ⟨hu, .inl ((hh _ _ _).1 e)⟩)⟩, fun e => ⟨fun e' => ⟨hp1, fun o => decide_eq_true ⟨h3.1, h3.2.1, .inr (.inl ⟨hu, .inr (.inr (.inl (of_decide_eq_true o)))⟩)⟩, fun o => ⟨hp2, ?_⟩⟩, fun e' => decide_eq_true ⟨h3.1, h3.2.1, .inr (.inl ⟨hu, .inr (.inl ((hh _ _ _).1 ?_))⟩)⟩⟩⟩
     · refine decide_eq_decide.2 ⟨fun od => ⟨h3.1, h3.2.1, .inr (.inl ⟨hu, .inr (.inr (.inr od))⟩)⟩, fun hi => ?_⟩
       rcases hi.2.2 with g | ⟨_, g | g | g | g⟩ | g
       · exact absurd h3.2.2 g
       · rw [(hh _ _ _).2 g] at e; cases e
       · rw [(hh _ _ _).2 g] at e'; cases e'
       · exact absurd g (of_decide_eq_false o)
       · exact g
       · exact absurd hu g.1
     · revert e'
       cases (decide (c2 - a2 ≤ 0) == decide (c2 - b2 ≤ 0)) <;> simp
   · exact ⟨0, ⟨h3.1, h3.2.1, h3.2.2, of_decide_eq_false h0⟩, trivial⟩
   · exact ⟨0, h4, trivial⟩
   · have hw := of_decide_eq_true h0
     refine decide_eq_false fun hi => ?_
     rcases hi.2.2 with g | g | g
     · exact g h4.2.2.1
     · exact h4.2.2.2 g.1
     · exact g.2.1 hw
   · exact ⟨0, ⟨h4.1, h4.2.1, h4.2.2.1, h4.2.2.2, of_decide_eq_false h0⟩, trivial⟩
   · intro r hr
     obtain ⟨x1, x2, x3⟩ := tu ft fw h5.2.2.2.2 nt nw hr
     obtain ⟨y1, y2, y3⟩ := tu fu fw h5.2.2.2.2 nu nw hr
     refine ⟨x1, y1, ?_⟩
     rw [x2, y2]
     have bad : ¬ (0 ≤ xp (c1 - a1) (c2 - a2) (d1 - c1) (d2 - c2) * xp (b1 - a1) (b2 - a2) (d1 - c1) (d2 - c2) ∧ (xp (c1 - a1) (c2 - a2) (d1 - c1) (d2 - c2)).natAbs ≤ (xp (b1 - a1) (b2 - a2) (d1 - c1) (d2 - c2)).natAbs ∧
         0 ≤ xp (c1 - a1) (c2 - a2) (b1 - a1) (b2 - a2) * xp (b1 - a1) (b2 - a2) (d1 - c1) (d2 - c2) ∧ (xp (c1 - a1) (c2 - a2) (b1 - a1) (b2 - a2)).natAbs ≤ (xp (b1 - a1) (b2 - a2) (d1 - c1) (d2 - c2)).natAbs) → decide (Isec a1 a2 b1 b2 c1 c2 d1 d2) = false := by
       intro hb
       refine decide_eq_false fun hi => ?_
       rcases hi.2.2 with g | g | g
       · exact g h5.2.2.1
       · exact h5.2.2.2.1 g.1
       · exact hb g.2.2
     refine ⟨fun g1 => ⟨fun g2 => ⟨fun g3 => ⟨fun g4 => ?_, fun g4 => ?_⟩, fun g3 => ?_⟩, fun g2 => ?_⟩, fun g1 => ?_⟩
     · have g3 := of_decide_eq_true g3
       rw [y3 g3] at g4
       exact bad fun hb => by simp [hb.2.2.2] at g4
     · have g3 := of_decide_eq_true g3
       have g1 := of_decide_eq_true g1
       rw [y3 g3] at g4
       rw [x3 g1] at g2
       refine decide_eq_true ⟨h5.1, h5.2.1, .inr (.inr ⟨h5.2.2.2.1, h5.2.2.2.2, g1, of_decide_eq_true g2, g3, by simpa using g4⟩)⟩
     · exact bad fun hb => of_decide_eq_false g3 hb.2.2.1
     · have g1 := of_decide_eq_true g1
       rw [x3 g1] at g2
       exact bad fun hb => of_decide_eq_false g2 hb.2.1
     · exact bad fun hb => of_decide_eq_false g1 hb.1
noncomputable def isecF : PF := fun
 | [.agg [.flt .f64 ax, .flt .f64 ay, .flt .f64 bx, .flt .f64 by'], .agg [.flt .f64 cx, .flt .f64 cy, .flt .f64 dx, .flt .f64 dy]] =>
   some (.bool (decide (Isec (wh ax) (wh ay) (wh bx) (wh by') (wh cx) (wh cy) (wh dx) (wh dy))), some (P8 ax ay bx by' cx cy dx dy (wh ax) (wh ay) (wh bx) (wh by') (wh cx) (wh cy) (wh dx) (wh dy)))
 | _ => none
theorem isec : PureOk Tryz.prog 210 isecF := by
 refine pure_of_vc gIS Tryz.func210 rfl (by kernel_rfl) ?_
 intro args v p h hp
 unfold isecF at h
 split at h
 · injection h with h; injection h with h1 h2; subst h1; subst h2
   exact ⟨rfl, isec_run hp⟩
 · cases h
noncomputable def GC : Ctx := ⟨⟨tys, []⟩, [(90, pureCon rayF), (214, pureCon eqZeroF), (80, pureCon fromPF)]⟩
theorem gC : CtxOk Tryz.prog GC := ⟨⟨tysOk, FlatsOk.nil⟩, GamOk.cons (.pure ray) (GamOk.cons (.pure eqZero) (GamOk.cons (.pure fromP) GamOk.nil)), by kernel_rfl⟩
def PW (ax ay bx by' px py : Nat) : Prop := Pts ax ay bx by' px py (wh ax) (wh ay) (wh bx) (wh by') (wh px) (wh py)
noncomputable def onW (ax ay bx by' px py : Nat) : Bool := decide (On (wh ax) (wh ay) (wh bx) (wh by') (wh px) (wh py))
noncomputable def sCollF : PF := fun
 | [.agg [.flt .f64 ax, .flt .f64 ay, .flt .f64 bx, .flt .f64 by'], .agg [.flt .f64 px, .flt .f64 py]] => some (.bool (decide (xp (wh px - wh ax) (wh py - wh ay) (wh bx - wh ax) (wh by' - wh ay) = 0)), some (P8 ax ay bx by' px py px py (wh ax) (wh ay) (wh bx) (wh by') (wh px) (wh py) (wh px) (wh py)))
 | _ => none
theorem vc_sColl (R : SV → Prop) (ax ay bx by' px py : Nat) : runA GC 0 [] [] (codeOf Tryz.f211) (init Tryz.f211.ntmps [.agg [.flt .f64 ax, .flt .f64 ay, .flt .f64 bx, .flt .f64 by'], .agg [.flt .f64 px, .flt .f64 py]] [] 0) (endK GC.E.T Tryz.f211.results.toList fun _ v => R v) = (
 fok BinOp.sub .f64 px ax ∧ fok BinOp.sub .f64 py ay ∧ true = true ∧ fok BinOp.sub .f64 bx ax ∧ fok BinOp.sub .f64 by' ay ∧ true = true ∧ fok BinOp.mul .f64 (fop BinOp.sub .f64 px ax) (fop BinOp.sub .f64 by'
 ay) ∧ fok BinOp.mul .f64 (fop BinOp.sub .f64 py ay) (fop BinOp.sub .f64 bx ax) ∧ fok BinOp.sub .f64 (fop BinOp.mul .f64 (fop BinOp.sub .f64 px ax) (fop BinOp.sub .f64 by' ay)) (fop BinOp.mul .f64
(fop BinOp.sub .f64 py ay) (fop BinOp.sub .f64 bx ax)) ∧ R (SV.bool !(fLt .f64 (fop BinOp.sub .f64 (fop BinOp.mul .f64 (fop BinOp.sub .f64 px ax) (fop BinOp.sub .f64 by' ay)) (fop BinOp.mul .f64
(fop BinOp.sub .f64 py ay) (fop BinOp.sub .f64 bx ax))) 0 || fGt .f64 (fop BinOp.sub .f64 (fop BinOp.mul .f64 (fop BinOp.sub .f64 px ax) (fop BinOp.sub .f64 by' ay)) (fop BinOp.mul .f64
(fop BinOp.sub .f64 py ay) (fop BinOp.sub .f64 bx ax))) 0))) := by kernel_rfl
theorem sColl : PureOk Tryz.prog 211 sCollF := by
 refine pure_of_vc gC Tryz.func211 rfl (by kernel_rfl) ?_
 intro args v p h hp
 unfold sCollF at h
 split at h
 · rename_i ax ay bx by' px py
   injection h with h; injection h with h1 h2; subst h1; subst h2
   have hp : P8 ax ay bx by' px py px py (wh ax) (wh ay) (wh bx) (wh by') (wh px) (wh py) (wh px) (wh py) := hp
   refine ⟨rfl, _, _, (vc_sColl _ ax ay bx by' px py).mpr ?_⟩
   obtain ⟨⟨sa1, sa2, sb1, sb2⟩, sc1, sc2, _, _⟩ := hp.s
   obtain ⟨k1, f1, n1⟩ := sub_w hp.cx hp.ax sc1 sa1
   obtain ⟨k2, f2, n2⟩ := sub_w hp.cy hp.ay sc2 sa2
   obtain ⟨k3, f3, n3⟩ := sub_w hp.bx hp.ax sb1 sa1
   obtain ⟨k4, f4, n4⟩ := sub_w hp.by' hp.ay sb2 sa2
   obtain ⟨u1, u2, u3, fu, nu⟩ := cr_w f1 f2 f3 f4 n1 n2 n3 n4
   exact ⟨k1, k2, rfl, k3, k4, rfl, u1, u2, u3, zt fu⟩
 · cases h
def fmin (x y : Nat) : Nat := if fGt .f64 x y = true then y else x
def fmax (x y : Nat) : Nat := if fGt .f64 x y = true then x else y
def sRectF : PF := fun
 | [.agg [.flt .f64 ax, .flt .f64 ay, .flt .f64 bx, .flt .f64 by']] => some (.agg [.flt .f64 (fmin ax bx), .flt .f64 (fmin ay by'), .flt .f64 (fmax ax bx), .flt .f64 (fmax ay by')], none)
 | _ => none
theorem vc_sRect (R : SV → Prop) (ax ay bx by' : Nat) : runA GC 0 [] [] (codeOf Tryz.f113) (init Tryz.f113.ntmps [.agg [.flt .f64 ax, .flt .f64 ay, .flt .f64 bx, .flt .f64 by']] [] 0) (endK GC.E.T Tryz.f113.results.toList fun _ v => R v) = (
(fGt .f64 ax bx = true → (fGt .f64 ay by' = true → R (SV.agg [SV.flt .f64 bx, SV.flt .f64 by', SV.flt .f64 ax, SV.flt .f64 ay])) ∧ (fGt .f64 ay by' = false → R (SV.agg [SV.flt .f64 bx, SV.flt .f64 ay, SV.flt .f64 ax, SV.flt .f64
 by']))) ∧ (fGt .f64 ax bx = false → (fGt .f64 ay by' = true → R (SV.agg [SV.flt .f64 ax, SV.flt .f64 by', SV.flt .f64 bx, SV.flt .f64 ay])) ∧ (fGt .f64 ay by' = false → R (SV.agg [SV.flt .f64 ax, SV.flt .f64 ay, SV.flt .f64 bx,
 SV.flt .f64 by'])))) := by kernel_rfl
theorem sRect : PureOk Tryz.prog 113 sRectF := by
 refine pure_of_vc gC Tryz.func113 rfl (by kernel_rfl) ?_
 intro args v p h hp
 unfold sRectF at h
 split at h
 · rename_i ax ay bx by'
   injection h with h; injection h with h1 h2; subst h1; subst h2
   clear hp
   refine ⟨rfl, _, _, (vc_sRect _ ax ay bx by').mpr ?_⟩
   simp only [eqv, eqvL, fkEq_self, fmin, fmax]
   grind
 · cases h
def sgn (n : Int) : Int := if 0 < n then 1 else if n < 0 then -1 else 0
def GMeet (a1 a2 b1 b2 c1 c2 d1 d2 : Int) : Prop := On a1 a2 b1 b2 c1 c2 ∨ On a1 a2 b1 b2 d1 d2 ∨ On c1 c2 d1 d2 a1 a2 ∨ On c1 c2 d1 d2 b1 b2 ∨
 (sgn (cross a1 a2 b1 b2 c1 c2) * sgn (cross a1 a2 b1 b2 d1 d2) < 0 ∧ sgn (cross c1 c2 d1 d2 a1 a2) * sgn (cross c1 c2 d1 d2 b1 b2) < 0)
instance (a b c d e f g h : Int) : Decidable (GMeet a b c d e f g h) := by unfold GMeet; infer_instance
def GCov (a1 a2 b1 b2 c1 c2 d1 d2 : Int) : Prop := On c1 c2 d1 d2 a1 a2 ∧ On c1 c2 d1 d2 b1 b2 ∧ ¬ On a1 a2 b1 b2 c1 c2 ∧ ¬ On a1 a2 b1 b2 d1 d2
instance (a b c d e f g h : Int) : Decidable (GCov a b c d e f g h) := by unfold GCov; infer_instance
def Whl (g : Nat → Nat) (z : Nat → Int) (m : Nat) : Prop := ∀ j, j < m → FI (g j) (z j) ∧ (z j).natAbs ≤ 4194304
def cwZ (z : Nat → Int) (len : Nat) : Nat → Int
 | 0 => 0
 | i + 1 => cwZ z len i + (z (2 * nx len i) - z (2 * i)) * (z (2 * nx len i + 1) + z (2 * i + 1))
def zcZ (z : Nat → Int) (len i : Nat) : Int :=
 (z (2 * nx len i) - z (2 * i)) * (z (2 * nx2 len i + 1) - z (2 * nx len i + 1)) - (z (2 * nx len i + 1) - z (2 * i + 1)) * (z (2 * nx2 len i) - z (2 * nx len i))
def dStepZ (d : Int) (c : Bool) (v : Int) : Int × Bool :=
 if c = true then (d, c) else if d = 0 then (if v < 0 then (-1, c) else if 0 < v then (1, c) else (d, c))
 else if v < 0 then (d, decide (d = 1)) else if 0 < v then (d, decide (d = -1)) else (d, c)
def dcZ (z : Nat → Int) (len : Nat) : Nat → Int × Bool
 | 0 => (0, false)
 | i + 1 => dStepZ (dcZ z len i).1 (dcZ z len i).2 (zcZ z len i)
def loZ (z : Nat → Int) (k : Nat) : Nat → Int
 | 0 => 0
 | i + 1 => if i = 0 ∨ z (2 * i + k) < loZ z k i then z (2 * i + k) else loZ z k i
def hiZ (z : Nat → Int) (k : Nat) : Nat → Int
 | 0 => 0
 | i + 1 => if i = 0 then z (2 * i + k) else if z (2 * i + k) < loZ z k i then hiZ z k i else if hiZ z k i < z (2 * i + k) then z (2 * i + k) else hiZ z k i
theorem add_F {x y : Nat} {a b : Int} (hx : FI x a) (hy : FI y b) (h : (a + b).natAbs < 2 ^ 53) : fok .add .f64 x y ∧ FI (fop .add .f64 x y) (a + b) := by
 obtain ⟨r, h1, h2⟩ := FI_add hx hy h
 obtain ⟨h3, h4⟩ := fop_of (op := .add) h1
 exact ⟨h3, by rw [h4]; exact h2⟩
theorem sub_F {x y : Nat} {a b : Int} (hx : FI x a) (hy : FI y b) (h : (a - b).natAbs < 2 ^ 53) : fok .sub .f64 x y ∧ FI (fop .sub .f64 x y) (a - b) := by
 obtain ⟨r, h1, h2⟩ := FI_sub hx hy h
 obtain ⟨h3, h4⟩ := fop_of (op := .sub) h1
 exact ⟨h3, by rw [h4]; exact h2⟩
theorem natAbs_mul_le {a b : Int} {m n : Nat} (ha : a.natAbs ≤ m) (hb : b.natAbs ≤ n) : (a * b).natAbs ≤ m * n := by
 rw [Int.natAbs_mul]; exact Nat.mul_le_mul ha hb
theorem natAbs_sub_le {a b : Int} {m : Nat} (ha : a.natAbs ≤ m) (hb : b.natAbs ≤ m) : (a - b).natAbs ≤ 2 * m := by omega
theorem natAbs_add_le' {a b : Int} {m : Nat} (ha : a.natAbs ≤ m) (hb : b.natAbs ≤ m) : (a + b).natAbs ≤ 2 * m := by omega
theorem nx_lt {len i : Nat} (h : i < len) : nx len i < len := by unfold nx; split <;> omega
theorem nx2_lt {len i : Nat} (h : i < len) (h2 : 2 ≤ len) : nx2 len i < len := by unfold nx2; split; omega; split <;> omega
section
variable {g : Nat → Nat} {z : Nat → Int} {len : Nat} (hl : len ≤ 64) (hg : Whl g z (2 * len))
include hg
theorem lo_F {k : Nat} (hk : k < 2) : ∀ i, i ≤ len → FI (rlo g k i) (loZ z k i) ∧ (loZ z k i).natAbs ≤ 4194304
 | 0, _ => ⟨zero_FI, by simp [loZ]⟩
 | i + 1, h => by
   obtain ⟨h1, h2⟩ := lo_F hk i (by omega)
   obtain ⟨h3, h4⟩ := hg (2 * i + k) (by omega)
   show FI (if i = 0 ∨ fLt .f64 (g (2 * i + k)) (rlo g k i) = true then g (2 * i + k) else rlo g k i) (if i = 0 ∨ z (2 * i + k) < loZ z k i then z (2 * i + k) else loZ z k i) ∧ (if i = 0 ∨ z (2 * i + k) < loZ z k i then z (2 * i + k) else loZ z k i).natAbs ≤ 4194304
   rw [flt_I h3 h1]
   by_cases hc : i = 0 ∨ z (2 * i + k) < loZ z k i
   · rw [if_pos hc, if_pos (by simpa using hc)]; exact ⟨h3, h4⟩
   · rw [if_neg hc, if_neg (by simpa using hc)]; exact ⟨h1, h2⟩
theorem hi_F {k : Nat} (hk : k < 2) : ∀ i, i ≤ len → FI (rhi g k i) (hiZ z k i) ∧ (hiZ z k i).natAbs ≤ 4194304
 | 0, _ => ⟨zero_FI, by simp [hiZ]⟩
 | i + 1, h => by
   obtain ⟨h1, h2⟩ := hi_F hk i (by omega)
   obtain ⟨h1', h2'⟩ := lo_F hg hk i (by omega)
   obtain ⟨h3, h4⟩ := hg (2 * i + k) (by omega)
   show FI (hiStep i (g (2 * i + k)) (rlo g k i) (rhi g k i)) (hiZ z k (i + 1)) ∧ (hiZ z k (i + 1)).natAbs ≤ 4194304
   unfold hiStep hiZ
   rw [flt_I h3 h1', fgt_I h3 h1]
   by_cases c0 : i = 0
   · rw [if_pos c0, if_pos c0]; exact ⟨h3, h4⟩
   rw [if_neg c0, if_neg c0]
   by_cases c1 : z (2 * i + k) < loZ z k i
   · rw [if_pos c1, if_pos (decide_eq_true c1)]; exact ⟨h1, h2⟩
   rw [if_neg c1, if_neg (by simpa using c1)]
   by_cases c2 : hiZ z k i < z (2 * i + k)
   · rw [if_pos c2, if_pos (decide_eq_true c2)]; exact ⟨h3, h4⟩
   · rw [if_neg c2, if_neg (by simpa using c2)]; exact ⟨h1, h2⟩
theorem zc_F {i : Nat} (hi : i < len) (h2 : 2 ≤ len) : zcOk (g (2 * i)) (g (2 * i + 1)) (g (2 * nx len i)) (g (2 * nx len i + 1)) (g (2 * nx2 len i)) (g (2 * nx2 len i + 1)) ∧
   FI (zcF g len i) (zcZ z len i) := by
 have n1 := nx_lt hi
 have n2 := nx2_lt hi h2
 obtain ⟨fa, ba⟩ := hg (2 * i) (by omega)
 obtain ⟨fa', ba'⟩ := hg (2 * i + 1) (by omega)
 obtain ⟨fb, bb⟩ := hg (2 * nx len i) (by omega)
 obtain ⟨fb', bb'⟩ := hg (2 * nx len i + 1) (by omega)
 obtain ⟨fc, bc⟩ := hg (2 * nx2 len i) (by omega)
 obtain ⟨fc', bc'⟩ := hg (2 * nx2 len i + 1) (by omega)
 have s1 := natAbs_sub_le bb ba
 have s2 := natAbs_sub_le bc' bb'
 have s3 := natAbs_sub_le bb' ba'
 have s4 := natAbs_sub_le bc bb
 have p1 := natAbs_mul_le s1 s2
 have p2 := natAbs_mul_le s3 s4
 obtain ⟨k1, e1⟩ := sub_F fb fa (by omega)
 obtain ⟨k2, e2⟩ := sub_F fc' fb' (by omega)
 obtain ⟨k3, e3⟩ := sub_F fb' fa' (by omega)
 obtain ⟨k4, e4⟩ := sub_F fc fb (by omega)
 obtain ⟨k5, e5⟩ := mul_of e1 e2 (by omega)
 obtain ⟨k6, e6⟩ := mul_of e3 e4 (by omega)
 obtain ⟨k7, e7⟩ := sub_F e5 e6 (by omega)
 exact ⟨⟨k1, k2, k5, k3, k4, k6, k7⟩, e7⟩
include hl in
theorem cw_F : ∀ i, i ≤ len → FI (cwF g len i) (cwZ z len i) ∧ (cwZ z len i).natAbs ≤ i * 70368744177664 ∧
   (i < len → cwOk (cwF g len i) (g (2 * i)) (g (2 * i + 1)) (g (2 * nx len i)) (g (2 * nx len i + 1)) ∧ FI (cwF g len (i + 1)) (cwZ z len (i + 1)) ∧ (cwZ z len (i + 1)).natAbs ≤ (i + 1) * 70368744177664)
 | i, h => by
   have base : FI (cwF g len i) (cwZ z len i) ∧ (cwZ z len i).natAbs ≤ i * 70368744177664 := by
     cases i with
     | zero => exact ⟨zero_FI, by simp [cwZ]⟩
     | succ j => exact ((cw_F j (by omega)).2.2 (by omega)).2
   refine ⟨base.1, base.2, fun hi => ?_⟩
   have n1 := nx_lt hi
   obtain ⟨fa, ba⟩ := hg (2 * i) (by omega)
   obtain ⟨fa', ba'⟩ := hg (2 * i + 1) (by omega)
   obtain ⟨fb, bb⟩ := hg (2 * nx len i) (by omega)
   obtain ⟨fb', bb'⟩ := hg (2 * nx len i + 1) (by omega)
   have s1 := natAbs_sub_le bb ba
   have s2 := natAbs_add_le' bb' ba'
   have p1 := natAbs_mul_le s1 s2
   obtain ⟨k1, e1⟩ := sub_F fb fa (by omega)
   obtain ⟨k2, e2⟩ := add_F fb' fa' (by omega)
   obtain ⟨k3, e3⟩ := mul_of e1 e2 (by omega)
   obtain ⟨k4, e4⟩ := add_F base.1 e3 (by omega)
   exact ⟨⟨k1, k2, k3, k4⟩, e4, by show (cwZ z len i + _).natAbs ≤ _; omega⟩
include hl in
theorem ppOk_F (h2 : 2 ≤ len) : ppOk g len := fun i hi => ⟨((cw_F hl hg i (by omega)).2.2 hi).1, (zc_F hg hi h2).1⟩
theorem dc_F (h2 : 2 ≤ len) : ∀ i, i ≤ len → dcF g len i = dcZ z len i
 | 0, _ => rfl
 | i + 1, h => by
   show dStep (dcF g len i).1 (dcF g len i).2 (zcF g len i) = dStepZ (dcZ z len i).1 (dcZ z len i).2 (zcZ z len i)
   rw [dc_F h2 i (by omega)]
   have hz := (zc_F hg (show i < len by omega) h2).2
   unfold dStep dStepZ
   rw [flt_I hz zero_FI, fgt_I hz zero_FI]
   simp only [decide_eq_true_eq]
end
theorem loZ_le {z : Nat → Int} {k : Nat} : ∀ {i j : Nat}, j < i → loZ z k i ≤ z (2 * j + k)
 | 0, _, h => by omega
 | i + 1, j, h => by
   unfold loZ
   split
   · rename_i hc
     by_cases e : j = i
     · subst e; exact Int.le_refl _
     · rcases hc with rfl | hc
       · omega
       · exact Int.le_trans (Int.le_of_lt hc) (loZ_le (by omega))
   · rename_i hc
     by_cases e : j = i
     · subst e; omega
     · exact loZ_le (by omega)
theorem loZ_at {z : Nat → Int} {k : Nat} : ∀ {i : Nat}, 0 < i → ∃ j, j < i ∧ loZ z k i = z (2 * j + k)
 | i + 1, _ => by
   unfold loZ
   split
   · exact ⟨i, by omega, rfl⟩
   · rename_i hc
     obtain ⟨j, h1, h2⟩ := loZ_at (z := z) (k := k) (i := i) (by omega)
     exact ⟨j, by omega, h2⟩
theorem hiZ_ge {z : Nat → Int} {k : Nat} : ∀ {i j : Nat}, j < i → z (2 * j + k) ≤ hiZ z k i
 | 0, _, h => by omega
 | i + 1, j, h => by
   have hl := fun (hi : 0 < i) => loZ_le (z := z) (k := k) (i := i) (j := 0) hi
   have hh := fun (hi : 0 < i) => hiZ_ge (z := z) (k := k) (i := i) (j := 0) hi
   unfold hiZ
   split
   · have : j = i := by omega
     subst this; exact Int.le_refl _
   · have hl := hl (by omega)
     have hh := hh (by omega)
     by_cases e : j = i
     · subst e
       split
       · omega
       · split <;> omega
     · have h3 := hiZ_ge (z := z) (k := k) (i := i) (j := j) (by omega)
       split
       · exact h3
       · split
         · omega
         · exact h3
theorem hiZ_at {z : Nat → Int} {k : Nat} : ∀ {i : Nat}, 0 < i → ∃ j, j < i ∧ hiZ z k i = z (2 * j + k)
 | i + 1, _ => by
   unfold hiZ
   split
   · exact ⟨i, by omega, rfl⟩
   · obtain ⟨j, h1, h2⟩ := hiZ_at (z := z) (k := k) (i := i) (by omega)
     split
     · exact ⟨j, by omega, h2⟩
     · split
       · exact ⟨i, by omega, rfl⟩
       · exact ⟨j, by omega, h2⟩
theorem whl_fI {g : Nat → Int} {m : Nat} (h : ∀ j, j < m → small (g j)) : Whl (fI g) g m := fun j hj => ⟨fi (h j hj), by have := h j hj; unfold small at this; omega⟩
end Go.Proofs.Tryz.Sx

namespace Go.Sx
def swC (p : List SV → Bool) (a b : Con) : Con := fun args rd nm => match p args with
 | true => a args rd nm
 | false => b args rd nm
theorem ConOk.sw {P : Program} {f : Nat} {a b : Con} {p : List SV → Bool} (ha : ConOk P f a) (hb : ConOk P f b) : ConOk P f (swC p a b) where
 calls := by
   intro W0 Fr U H ρ w nm args e hH hbd hn hc ho
   unfold swC at hc
   split at hc
   · exact ha.calls hH hbd hn hc ho
   · exact hb.calls hH hbd hn hc ho
 loc := by
   intro args rd rd' nm e hc hr
   unfold swC at hc ⊢
   split
   · rename_i hp
     rw [hp] at hc
     exact ha.loc hc hr
   · rename_i hp
     rw [hp] at hc
     exact hb.loc hc hr
def rwOk (o : Ob) (e es : Nat) : Bool := match o.rw with
 | true => Nat.beq o.elem e && Nat.beq o.es es
 | false => false
theorem obR_rw {σ : Sig} {o : Ob} {e es : Nat} {c' : Cont} (h : rwOk o e es = true) (hc : contR σ o.c c') : obR σ o ⟨true, e, c', es⟩ := by
 obtain ⟨rw, el, c, es'⟩ := o
 unfold rwOk at h
 cases rw with
 | false => cases h
 | true =>
   simp only [Bool.and_eq_true] at h
   exact ⟨Nat.eq_of_beq_eq_true h.1, Nat.eq_of_beq_eq_true h.2, hc⟩
end Go.Sx

namespace Go.Proofs.Tryz.Sx
open Go Go.Sx Go.Proofs Go.Fl Go.Geo
set_option maxRecDepth 100000
def W1 (x : Nat) : Prop := FI x (wh x) ∧ small (wh x)
def SmF (g : Nat → Nat) (m : Nat) : Prop := ∀ j, j < m → W1 (g j)
noncomputable def wz (g : Nat → Nat) (j : Nat) : Int := wh (g j)
theorem W1.abs {x : Nat} (h : W1 x) : (wh x).natAbs ≤ 2 ^ 22 := by have := h.2; unfold small at this; omega
theorem pw_of {a b c d x y : Nat} (ha : W1 a) (hb : W1 b) (hc : W1 c) (hd : W1 d) (hx : W1 x) (hy : W1 y) : PW a b c d x y :=
 ⟨ha.1, hb.1, hc.1, hd.1, hx.1, hy.1, ha.abs, hb.abs, hc.abs, hd.abs, hx.abs, hy.abs⟩
theorem p8_w {a b c d x y z w : Nat} (ha : W1 a) (hb : W1 b) (hc : W1 c) (hd : W1 d) (hx : W1 x) (hy : W1 y) (hz : W1 z) (hw : W1 w) : P8 a b c d x y z w (wh a) (wh b) (wh c) (wh d) (wh x) (wh y) (wh z) (wh w) :=
 ⟨ha.1, hb.1, hc.1, hd.1, hx.1, hy.1, hz.1, hw.1, ⟨ha.2, hb.2, hc.2, hd.2⟩, hx.2, hy.2, hz.2, hw.2⟩
theorem w1_fI {n : Int} (h : small n) : W1 (ofI .f64 n) ∧ wh (ofI .f64 n) = n := by
 have e := wh_of h
 exact ⟨⟨by rw [e]; exact fi h, by rw [e]; exact h⟩, e⟩
theorem w1_zero : W1 0 ∧ wh 0 = 0 := by
 have e : wh 0 = 0 := wh_FI zero_FI
 exact ⟨⟨by rw [e]; exact zero_FI, by rw [e]; decide⟩, e⟩
def ninfw : Nat := 18442240474082181120
theorem read_ninf : Ieee.Format.read Ieee.double ninfw = .infinity true := by decide
theorem order_ninf {x : Nat} (hx : Fl.Fin x) : FloatKind.f64.format.order x ninfw = some .gt := by
 obtain ⟨s, m, i, h1, _⟩ := read_fin hx
 show (Ieee.Format.read Ieee.double x).order (Ieee.Format.read Ieee.double ninfw) = _
 rw [h1, read_ninf]; rfl
theorem flt_ninf {x : Nat} (hx : Fl.Fin x) : fLt .f64 x ninfw = false := by unfold fLt; rw [order_ninf hx]; rfl
theorem fgt_inf' {x : Nat} (hx : Fl.Fin x) : fGt .f64 x infw = false := by unfold fGt; rw [order_inf hx]; rfl
def inf2F : PF := fun
 | [.int .i64 s] => some (.flt .f64 (if s < 0 then ninfw else infw), none)
 | _ => none
theorem vc_inf2 (R : SV → Prop) (s : Int) : runA GM 0 [] [] (codeOf Tryz.f100) (init Tryz.f100.ntmps [.int .i64 s] [] 0) (endK GM.E.T Tryz.f100.results.toList fun _ v => R v) = (
(decide ((0 : Int) ≤ s) = true → R (SV.flt .f64 9218868437227405312)) ∧ (decide ((0 : Int) ≤ s) = false → R (SV.flt .f64 18442240474082181120))) := by kernel_rfl
theorem inf2 : PureOk Tryz.prog 100 inf2F := by
 refine pure_of_vc gM Tryz.func100 rfl (by kernel_rfl) ?_
 intro args v p h hp
 unfold inf2F at h
 split at h
 · rename_i s
   injection h with h; injection h with h1 h2; subst h1; subst h2
   clear hp
   refine ⟨rfl, _, _, (vc_inf2 _ s).mpr ?_⟩
   refine ⟨fun h => ?_, fun h => ?_⟩
   · have h := of_decide_eq_true h
     rw [if_neg (by omega)]
     rfl
   · have h := of_decide_eq_false h
     rw [if_pos (by omega)]
     rfl
 · cases h
def bxB : Cont → Option Bool
 | .cells [v] => v.toB
 | _ => none
def bxBC (b : Bool) : Cont := .cells [.bool b]
theorem bxB_spec {σ : Sig} {c : Cont} {b : Bool} (h : bxB c = some b) : contR σ c (bxBC b) := by
 unfold bxB at h
 split at h
 · show eqvRL σ _ _
   simp [eqvRL, toB_eqvR h]
 · cases h
def bxI : Cont → Option Int
 | .cells [.int .i64 n] => some n
 | _ => none
def bxIC (n : Int) : Cont := .cells [.int .i64 n]
theorem bxI_spec {σ : Sig} {c : Cont} {n : Int} (h : bxI c = some n) : contR σ c (bxIC n) := by
 unfold bxI at h
 split at h
 · simp only [Option.some.injEq] at h
   subst h
   show eqvRL σ _ _
   simp [eqvRL, eqvR, kEq_self]
 · cases h
def bxP : Cont → Option (Nat × Nat)
 | .cells [.flt .f64 x, .flt .f64 y] => some (x, y)
 | _ => none
def bxPC (x y : Nat) : Cont := .cells [.flt .f64 x, .flt .f64 y]
theorem bxP_spec {σ : Sig} {c : Cont} {x y : Nat} (h : bxP c = some (x, y)) : contR σ c (bxPC x y) := by
 unfold bxP at h
 split at h
 · simp only [Option.some.injEq, Prod.mk.injEq] at h
   obtain ⟨rfl, rfl⟩ := h
   show eqvRL σ _ _
   simp [eqvRL, eqvR, fkEq_self]
 · cases h
def bx4 : Cont → Option (Nat × Nat × Nat × Nat)
 | .cells [.flt .f64 x, .flt .f64 y, .flt .f64 z, .flt .f64 w] => some (x, y, z, w)
 | _ => none
def bx4C (x y z w : Nat) : Cont := .cells [.flt .f64 x, .flt .f64 y, .flt .f64 z, .flt .f64 w]
theorem bx4_spec {σ : Sig} {c : Cont} {x y z w : Nat} (h : bx4 c = some (x, y, z, w)) : contR σ c (bx4C x y z w) := by
 unfold bx4 at h
 split at h
 · simp only [Option.some.injEq, Prod.mk.injEq] at h
   obtain ⟨rfl, rfl, rfl, rfl⟩ := h
   show eqvRL σ _ _
   simp [eqvRL, eqvR, fkEq_self]
 · cases h
def nsg (cl : Bool) (n : Nat) (z : Nat → Int) : Nat := if cl = true then (if n < 3 then 0 else if z (2 * (n - 1)) = z 0 ∧ z (2 * (n - 1) + 1) = z 1 then n - 1 else n) else n - 1
def FP : Flats := [(100, [true, true])]
theorem fpOk : FlatsOk Tryz.prog FP := FlatsOk.cons flat61 FlatsOk.nil
def GPF : Ctx := ⟨⟨tys, FP⟩, []⟩
theorem gPF : CtxOk Tryz.prog GPF := ⟨⟨tysOk, fpOk⟩, GamOk.nil, by kernel_rfl⟩
noncomputable def sNumSC : List SV → RdM
 | [.ptr s 0] => .read s fun o0 => (match serOf o0.c with
   | some (cl, cw, cv, k, x, y, z, w, p, n) => .read p fun o1 => (match fltsFrom .f64 o1.c with
   | some (m1, g) => .ret ⟨[.ptr 0 0], [(0, ⟨false, 150, serC cl cw cv k x y z w 1 n, 0⟩), (1, ⟨false, 100, .flts .f64 m1 g, 0⟩)], .int .i64 (nsg cl n (wz g)), [], [], some (m1 = 2 * n ∧ n ≤ 1000000 ∧ SmF g (2 * n))⟩
   | none => .fail)
   | none => .fail)
 | _ => .fail
theorem vc_sNumS (cl cw cv : Bool) (k : Int) (x y z w : Nat) (_ : Nm) (n : Nat)  (g : Nat → Nat) : runA GPF 2 [] [] (codeOf Tryz.f111) (init Tryz.f111.ntmps [.ptr 0 0] [(0, ⟨false, 150, serC cl cw cv k x y z w 1 n, 0⟩), (1, ⟨false, 100, .flts .f64 (2 * n) g, 0⟩)] 2) (endK GPF.E.T Tryz.f111.results.toList fun S v => postP 2 ⟨[.ptr 0 0], [(0, ⟨false, 150, serC cl cw cv k x y z w 1 n, 0⟩), (1, ⟨false, 100, .flts .f64 (2 * n) g, 0⟩)], .int .i64 (nsg cl n (wz g)), [], [], some (2 * n = 2 * n ∧ n ≤ 1000000 ∧ SmF g (2 * n))⟩ S v) = (
(cl = true → (decide ((↑n : Int) < 3) = true → 0 = (↑(nsg cl n (wz g)) : Int) ∧ True) ∧ (decide ((↑n : Int) < 3) = false → (((0 : Int) ≤ Go.IntKind.wrap .i64 ((↑n : Int) - 1) ∧
 Go.IntKind.wrap .i64 ((↑n : Int) - 1) < (↑n : Int)) ∧ 1 ≤ 2 * n) ∧ 0 + Int.toNat (Go.IntKind.wrap .i64 ((↑n : Int) - 1)) * 2 + 2 ≤ 2 * n ∧ (((0 : Int) ≤ 0 ∧ 0 < (↑n :
 Int)) ∧ 1 ≤ 2 * n) ∧ 2 ≤ 2 * n ∧ true = true ∧ ((fEq .f64 (g (0 + Int.toNat (Go.IntKind.wrap .i64 ((↑n : Int) - 1)) * 2)) (g 0) && (fEq .f64 (g (0 + Int.toNat
(Go.IntKind.wrap .i64 ((↑n : Int) - 1)) * 2 + 1)) (g 1) && true)) = true → Go.IntKind.wrap .i64 ((↑n : Int) - 1) = (↑(nsg cl n (wz g)) : Int) ∧ True) ∧ ((fEq .f64 (g
(0 + Int.toNat (Go.IntKind.wrap .i64 ((↑n : Int) - 1)) * 2)) (g 0) && (fEq .f64 (g (0 + Int.toNat (Go.IntKind.wrap .i64 ((↑n : Int) - 1)) * 2 + 1)) (g 1) && true)) = false
→ (↑n : Int) = (↑(nsg cl n (wz g)) : Int) ∧ True))) ∧ (cl = false → (decide ((↑n : Int) < 2) = true → 0 = (↑(nsg cl n (wz g)) : Int) ∧ True) ∧ (decide ((↑n : Int)
< (2 : Int)) = false → Go.IntKind.wrap .i64 ((↑n : Int) - 1) = (↑(nsg cl n (wz g)) : Int) ∧ True))) := by kernel_rfl
theorem sNumS : ConOk Tryz.prog 111 (conR sNumSC) := by
 refine con_of_vc gPF Tryz.func111 rfl (by kernel_rfl) fun args => ?_
 unfold sNumSC
 split
 · rename_i s
   intro o0
   show RdM.All _ (match serOf o0.c with | some (cl, cw, cv, k, x, y, z, w, p, n) => _ | none => _) _
   split
   · rename_i cl cw cv k x y z w p n hm0
     intro o1
     show RdM.All _ (match fltsFrom .f64 o1.c with | some (m, g) => _ | none => _) _
     split
     · rename_i m1 g hm1
       intro ho
       replace ho : m1 = 2 * n ∧ n ≤ 1000000 ∧ SmF g (2 * n) := ho
       obtain ⟨hsz1, ho⟩ := ho
       subst hsz1
       refine ⟨?_, _, _, (vc_sNumS cl cw cv k x y z w p n g).mpr ?_⟩
       · refine okFlag_mk rfl ⟨?_, ⟨trivial, serOf_spec hm0 (by simp [sgSig, fsts, nth, sameN_self]), ⟨trivial, (contR_flts hm1).1, trivial⟩⟩⟩
         simp [eqvRL, eqvR, sgSig, fsts, nth, sameN_self]
       · obtain ⟨hn, hg⟩ := ho
         have hw : IntKind.i64.wrap ((n : Int) - 1) = n - 1 := wrap64 (by omega) (by omega)
         rw [hw]
         refine ⟨fun hc => ⟨fun h => ?_, fun h => ?_⟩, fun hc => ⟨fun h => ?_, fun h => ?_⟩⟩
         · have h := of_decide_eq_true h
           refine ⟨?_, trivial⟩
           unfold nsg
           rw [if_pos hc, if_pos (by omega)]; rfl
         · have h := of_decide_eq_false h
           have e : 0 + ((n : Int) - 1).toNat * 2 = 2 * (n - 1) := by omega
           rw [e]
           have e1 : fEq .f64 (g (2 * (n - 1))) (g 0) = decide (wz g (2 * (n - 1)) = wz g 0) := feq_I (hg _ (by omega)).1 (hg _ (by omega)).1
           have e2 : fEq .f64 (g (2 * (n - 1) + 1)) (g 1) = decide (wz g (2 * (n - 1) + 1) = wz g 1) := feq_I (hg _ (by omega)).1 (hg _ (by omega)).1
           rw [e1, e2]
           refine ⟨by omega, by omega, by omega, by omega, rfl, fun h1 => ⟨?_, trivial⟩, fun h1 => ⟨?_, trivial⟩⟩
           · unfold nsg
             rw [if_pos hc, if_neg (by omega), if_pos (by simpa using h1)]
             omega
           · unfold nsg
             rw [if_pos hc, if_neg (by omega), if_neg (by simpa using h1)]
         · have h := of_decide_eq_true h
           refine ⟨?_, trivial⟩
           unfold nsg
           rw [if_neg (by simp [hc])]
           omega
         · have h := of_decide_eq_false h
           refine ⟨?_, trivial⟩
           unfold nsg
           rw [if_neg (by simp [hc])]
           omega
     · trivial
   · trivial
 · trivial
noncomputable def sSegC : List SV → RdM
 | [.ptr s 0, .int .i64 i] => .read s fun o0 => (match serOf o0.c with
   | some (cl, cw, cv, k, x, y, z, w, p, n) => .read p fun o1 => (match fltsFrom .f64 o1.c with
   | some (m1, g) => .ret ⟨[.ptr 0 0, .int .i64 i], [(0, ⟨false, 150, serC cl cw cv k x y z w 1 n, 0⟩), (1, ⟨false, 100, .flts .f64 m1 g, 0⟩)], .agg [.flt .f64 (g (2 * i.toNat)), .flt .f64 (g (2 * i.toNat + 1)), .flt .f64 (g (2 * nx n i.toNat)), .flt .f64 (g (2 * nx n i.toNat + 1))], [], [], some (m1 = 2 * n ∧ 0 ≤ i ∧ i < n ∧ n ≤ 1000000)⟩
   | none => .fail)
   | none => .fail)
 | _ => .fail
theorem vc_sSeg (cl cw cv : Bool) (k : Int) (x y z w : Nat) (_ : Nm) (n : Nat) (i : Int)  (g : Nat → Nat) : runA GPF 2 [] [] (codeOf Tryz.f112) (init Tryz.f112.ntmps [.ptr 0 0, .int .i64 i] [(0, ⟨false, 150, serC cl cw cv k x y z w 1 n, 0⟩), (1, ⟨false, 100, .flts .f64 (2 * n) g, 0⟩)] 2) (endK GPF.E.T Tryz.f112.results.toList fun S v => postP 2 ⟨[.ptr 0 0, .int .i64 i], [(0, ⟨false, 150, serC cl cw cv k x y z w 1 n, 0⟩), (1, ⟨false, 100, .flts .f64 (2 * n) g, 0⟩)], .agg [.flt .f64 (g (2 * i.toNat)), .flt .f64 (g (2 * i.toNat + 1)), .flt .f64 (g (2 * nx n i.toNat)), .flt .f64 (g (2 * nx n i.toNat + 1))], [], [], some (2 * n = 2 * n ∧ 0 ≤ i ∧ i < n ∧ n ≤ 1000000)⟩ S v) = (
(((0 : Int) ≤ i ∧ i < (↑n : Int)) ∧ 1 ≤ 2 * n) ∧ 0 + Int.toNat i * 2 + 2 ≤ 2 * n ∧ ((i == Go.IntKind.wrap .i64 ((↑n : Int) - 1)) = true → (((0 : Int) ≤ 0 ∧ 0 < (↑n : Int)) ∧ 1 ≤ 2 * n) ∧ 2 ≤ 2 * n ∧ (g (0 + Int.toNat i * 2) = g (2 * Int.toNat i) ∧ g (0 + Int.toNat i * 2 + 1) = g (2 * Int.toNat i + 1) ∧ g 0 = g (2 *
 nx n (Int.toNat i)) ∧ g 1 = g (2 * nx n (Int.toNat i) + 1) ∧ True) ∧ True) ∧ ((i == Go.IntKind.wrap .i64 ((↑n : Int) - 1)) = false → (((0 : Int) ≤ Go.IntKind.wrap .i64 (i + (1 :
 Int)) ∧ Go.IntKind.wrap .i64 (i + (1 : Int)) < (↑n : Int)) ∧ 1 ≤ 2 * n) ∧ 0 + Int.toNat (Go.IntKind.wrap .i64 (i + (1 : Int))) * 2 + 2 ≤ 2 * n ∧ (g (0 + Int.toNat i * 2) = g (2 *
 Int.toNat i) ∧ g (0 + Int.toNat i * 2 + 1) = g (2 * Int.toNat i + 1) ∧ g (0 + Int.toNat (Go.IntKind.wrap .i64 (i + (1 : Int))) * 2) = g (2 * nx n (Int.toNat i)) ∧ g (0 + Int.toNat (Go.IntKind.wrap .i64 (i + (1 : Int))) * 2 + 1) = g (2 * nx n (Int.toNat i) + 1) ∧ True) ∧ True)) := by kernel_rfl
theorem sSeg : ConOk Tryz.prog 112 (conR sSegC) := by
 refine con_of_vc gPF Tryz.func112 rfl (by kernel_rfl) fun args => ?_
 unfold sSegC
 split
 · rename_i s i
   intro o0
   show RdM.All _ (match serOf o0.c with | some (cl, cw, cv, k, x, y, z, w, p, n) => _ | none => _) _
   split
   · rename_i cl cw cv k x y z w p n hm0
     intro o1
     show RdM.All _ (match fltsFrom .f64 o1.c with | some (m, g) => _ | none => _) _
     split
     · rename_i m1 g hm1
       intro ho
       replace ho : m1 = 2 * n ∧ 0 ≤ i ∧ i < n ∧ n ≤ 1000000 := ho
       obtain ⟨hsz1, ho⟩ := ho
       subst hsz1
       refine ⟨?_, _, _, (vc_sSeg cl cw cv k x y z w p n i g).mpr ?_⟩
       · refine okFlag_mk rfl ⟨?_, ⟨trivial, serOf_spec hm0 (by simp [sgSig, fsts, nth, sameN_self]), ⟨trivial, (contR_flts hm1).1, trivial⟩⟩⟩
         simp [eqvRL, eqvR, kEq_self, sgSig, fsts, nth, sameN_self]
       · obtain ⟨h0, h1, hn⟩ := ho
         have hw : IntKind.i64.wrap ((n : Int) - 1) = n - 1 := wrap64 (by omega) (by omega)
         have hw1 : IntKind.i64.wrap (i + 1) = i + 1 := wrap64 (by omega) (by omega)
         have e : 0 + i.toNat * 2 = 2 * i.toNat := by omega
         rw [hw, hw1, e]
         refine ⟨by omega, by omega, fun h => ?_, fun h => ?_⟩
         · have h : i = n - 1 := by simpa using h
           have e2 : nx n i.toNat = 0 := by unfold nx; rw [if_pos (by omega)]
           rw [e2]
           refine ⟨by omega, by omega, ?_⟩
           simp
         · have h : ¬ i = n - 1 := by simpa using h
           have e2 : nx n i.toNat = i.toNat + 1 := by unfold nx; rw [if_neg (by omega)]
           have e3 : 0 + (i + 1).toNat * 2 = 2 * (i.toNat + 1) := by omega
           rw [e2, e3]
           refine ⟨by omega, by omega, ?_⟩
           simp
     · trivial
   · trivial
 · trivial
noncomputable def lfW (ax ay bx by' px py : Nat) : Bool := decide (¬ On (wh ax) (wh ay) (wh bx) (wh by') (wh px) (wh py) ∧ Lft (wh ax) (wh ay) (wh bx) (wh by') (wh px) (wh py))
noncomputable def isW (ax ay bx by' cx cy dx dy : Nat) : Bool := decide (Isec (wh ax) (wh ay) (wh bx) (wh by') (wh cx) (wh cy) (wh dx) (wh dy))
noncomputable def GCP : Ctx := ⟨⟨tys, FP⟩, [(90, pureCon rayF), (210, pureCon isecF), (211, pureCon sCollF)]⟩
theorem gCP : CtxOk Tryz.prog GCP := ⟨⟨tysOk, fpOk⟩, GamOk.cons (.pure ray) (GamOk.cons (.pure isec) (GamOk.cons (.pure sColl) GamOk.nil)), by kernel_rfl⟩
noncomputable def cpSC : List SV → RdM
 | [.agg [.flt .f64 px, .flt .f64 py], v, .ptr ix 0, .ptr inn 0, .agg [.flt .f64 ax, .flt .f64 ay, .flt .f64 bx, .flt .f64 by'], .int .i64 i] => .read ix fun o0 => (match rwOk o0 3 0 with
   | true => (match bxI o0.c with
   | some n => .read inn fun o1 => (match rwOk o1 4 0 with
   | true => (match bxB o1.c with
   | some b => (match v.toB with
   | some al => .ret ⟨[.agg [.flt .f64 px, .flt .f64 py], .bool al, .ptr 0 0, .ptr 1 0, .agg [.flt .f64 ax, .flt .f64 ay, .flt .f64 bx, .flt .f64 by'], .int .i64 i], [(0, ⟨true, 3, bxIC n, 0⟩), (1, ⟨true, 4, bxBC b, 0⟩)], .bool (!(onW ax ay bx by' px py)), [(0, ⟨true, 3, bxIC (if onW ax ay bx by' px py = true then i else n), 0⟩), (1, ⟨true, 4, bxBC (if onW ax ay bx by' px py = true then al else xor b (lfW ax ay bx by' px py)), 0⟩)], [], some (PW ax ay bx by' px py)⟩
   | none => .fail)
   | none => .fail)
   | false => .fail)
   | none => .fail)
   | false => .fail)
 | _ => .fail
theorem vc_cpS (px py ax ay bx by' : Nat) (al : Bool) (i : Int) (n : Int) (b : Bool) : runA GCP 2 [] [] (codeOf Tryz.f184) (init Tryz.f184.ntmps [.agg [.flt .f64 px, .flt .f64 py], .bool al, .ptr 0 0, .ptr 1 0, .agg [.flt .f64 ax, .flt .f64 ay, .flt .f64 bx, .flt .f64 by'], .int .i64 i] [(0, ⟨true, 3, bxIC n, 0⟩), (1, ⟨true, 4, bxBC b, 0⟩)] 2) (endK GCP.E.T Tryz.f184.results.toList fun S v => postP 2 ⟨[.agg [.flt .f64 px, .flt .f64 py], .bool al, .ptr 0 0, .ptr 1 0, .agg [.flt .f64 ax, .flt .f64 ay, .flt .f64 bx, .flt .f64 by'], .int .i64 i], [(0, ⟨true, 3, bxIC n, 0⟩), (1, ⟨true, 4, bxBC b, 0⟩)], .bool (!(onW ax ay bx by' px py)), [(0, ⟨true, 3, bxIC (if onW ax ay bx by' px py = true then i else n), 0⟩), (1, ⟨true, 4, bxBC (if onW ax ay bx by' px py = true then al else xor b (lfW ax ay bx by' px py)), 0⟩)], [], some (PW ax ay bx by' px py)⟩ S v) = (
 Pts ax ay bx by' px py (wh ax) (wh ay) (wh bx) (wh by') (wh px) (wh py) ∧ (decide (Go.Geo.On (wh ax)
(wh ay) (wh bx) (wh by') (wh px) (wh py)) = true → (!onW ax ay bx by' px py) = false ∧ True ∧ (3 = 3 ∧ 0 = 0 ∧
(i = if onW ax ay bx by' px py = true then i else n) ∧ True) ∧ True ∧ (4 = 4 ∧ 0 = 0 ∧ (al = if onW ax ay bx by' px py = true then al else b ^^ lfW ax ay bx by' px
 py) ∧ True) ∧ True) ∧ (decide (Go.Geo.On (wh ax) (wh ay) (wh bx) (wh by') (wh px) (wh py)) = false → (decide (¬Go.Geo.On (wh
 ax) (wh ay) (wh bx) (wh by') (wh px) (wh py) ∧ Go.Geo.Lft (wh ax) (wh ay) (wh bx) (wh
 by') (wh px) (wh py)) = true → (!onW ax ay bx by' px py) = true ∧ True ∧ (3 = 3 ∧ 0 = 0 ∧ (n = if onW ax ay bx by' px py = true then i else n) ∧
 True) ∧ True ∧ (4 = 4 ∧ 0 = 0 ∧ ((!b) = if onW ax ay bx by' px py = true then al else b ^^ lfW ax ay bx by' px py) ∧ True) ∧ True) ∧ (decide (¬Go.Geo.On (wh ax)
(wh ay) (wh bx) (wh by') (wh px) (wh py) ∧ Go.Geo.Lft (wh ax) (wh ay) (wh bx) (wh by')
(wh px) (wh py)) = false → (!onW ax ay bx by' px py) = true ∧ True ∧ (3 = 3 ∧ 0 = 0 ∧ (n = if onW ax ay bx by' px py = true then i else n) ∧ True)
∧ True ∧ (4 = 4 ∧ 0 = 0 ∧ (b = if onW ax ay bx by' px py = true then al else b ^^ lfW ax ay bx by' px py) ∧ True) ∧ True))) := by kernel_rfl
theorem cpS : ConOk Tryz.prog 184 (conR cpSC) := by
 refine con_of_vc gCP Tryz.func184 rfl (by kernel_rfl) fun args => ?_
 unfold cpSC
 split
 · rename_i px py v ix inn ax ay bx by' i
   intro o0
   show RdM.All _ (match rwOk o0 3 0 with | true => _ | false => _) _
   split
   · rename_i hrw0
     show RdM.All _ (match bxI o0.c with | some n => _ | none => _) _
     split
     · rename_i n hm0
       intro o1
       show RdM.All _ (match rwOk o1 4 0 with | true => _ | false => _) _
       split
       · rename_i hrw1
         show RdM.All _ (match bxB o1.c with | some b => _ | none => _) _
         split
         · rename_i b hm1
           show RdM.All _ (match v.toB with | some b => _ | none => _) _
           split
           · rename_i al hal
             intro ho
             replace ho : PW ax ay bx by' px py := ho
             refine ⟨?_, _, _, (vc_cpS px py ax ay bx by' al i n b).mpr ?_⟩
             · refine okFlag_mk rfl ⟨?_, ⟨trivial, obR_rw hrw0 (bxI_spec hm0), ⟨trivial, obR_rw hrw1 (bxB_spec hm1), trivial⟩⟩⟩
               simp [eqvRL, eqvR, kEq_self, fkEq_self, sgSig, fsts, nth, sameN_self, toB_eqvR hal]
             · have e1 : decide (On (wh ax) (wh ay) (wh bx) (wh by') (wh px) (wh py)) = onW ax ay bx by' px py := rfl
               have e2 : decide (¬ On (wh ax) (wh ay) (wh bx) (wh by') (wh px) (wh py) ∧ Lft (wh ax) (wh ay) (wh bx) (wh by') (wh px) (wh py)) = lfW ax ay bx by' px py := rfl
               simp only [e1, e2]
               refine ⟨ho, ?_⟩
               generalize onW ax ay bx by' px py = o
               generalize lfW ax ay bx by' px py = l
               cases o <;> cases l <;> simp
           · trivial
         · trivial
       · trivial
     · trivial
   · trivial
 · trivial
noncomputable def GcpB : Ctx := ⟨⟨tys, []⟩, [(184, conR cpSC)]⟩
theorem gcpB : CtxOk Tryz.prog GcpB := ⟨⟨tysOk, FlatsOk.nil⟩, GamOk.cons cpS GamOk.nil, by kernel_rfl⟩
noncomputable def cpBC : List SV → RdM
 | [.agg [.flt .f64 ax, .flt .f64 ay, .flt .f64 bx, .flt .f64 by'], .int .i64 i, .ptr p 0, .ptr a 0, .ptr ix 0, .ptr inn 0] => .read p fun o0 => (match bxP o0.c with
   | some (px, py) => .read a fun o1 => (match bxB o1.c with
   | some al => .read ix fun o2 => (match rwOk o2 3 0 with
   | true => (match bxI o2.c with
   | some n => .read inn fun o3 => (match rwOk o3 4 0 with
   | true => (match bxB o3.c with
   | some b => .ret ⟨[.agg [.flt .f64 ax, .flt .f64 ay, .flt .f64 bx, .flt .f64 by'], .int .i64 i, .ptr 0 0, .ptr 1 0, .ptr 2 0, .ptr 3 0], [(0, ⟨false, 100, bxPC px py, 0⟩), (1, ⟨false, 4, bxBC al, 0⟩), (2, ⟨true, 3, bxIC n, 0⟩), (3, ⟨true, 4, bxBC b, 0⟩)], .bool (!(onW ax ay bx by' px py)), [(2, ⟨true, 3, bxIC (if onW ax ay bx by' px py = true then i else n), 0⟩), (3, ⟨true, 4, bxBC (if onW ax ay bx by' px py = true then al else xor b (lfW ax ay bx by' px py)), 0⟩)], [], some (PW ax ay bx by' px py)⟩
   | none => .fail)
   | false => .fail)
   | none => .fail)
   | false => .fail)
   | none => .fail)
   | none => .fail)
 | _ => .fail
theorem vc_cpB (px py ax ay bx by' : Nat) (al : Bool) (i : Int) (n : Int) (b : Bool) : runA GcpB 4 [] [] (codeOf Tryz.f183) (init Tryz.f183.ntmps [.agg [.flt .f64 ax, .flt .f64 ay, .flt .f64 bx, .flt .f64 by'], .int .i64 i, .ptr 0 0, .ptr 1 0, .ptr 2 0, .ptr 3 0] [(0, ⟨false, 100, bxPC px py, 0⟩), (1, ⟨false, 4, bxBC al, 0⟩), (2, ⟨true, 3, bxIC n, 0⟩), (3, ⟨true, 4, bxBC b, 0⟩)] 4) (endK GcpB.E.T Tryz.f183.results.toList fun S v => postP 4 ⟨[.agg [.flt .f64 ax, .flt .f64 ay, .flt .f64 bx, .flt .f64 by'], .int .i64 i, .ptr 0 0, .ptr 1 0, .ptr 2 0, .ptr 3 0], [(0, ⟨false, 100, bxPC px py, 0⟩), (1, ⟨false, 4, bxBC al, 0⟩), (2, ⟨true, 3, bxIC n, 0⟩), (3, ⟨true, 4, bxBC b, 0⟩)], .bool (!(onW ax ay bx by' px py)), [(2, ⟨true, 3, bxIC (if onW ax ay bx by' px py = true then i else n), 0⟩), (3, ⟨true, 4, bxBC (if onW ax ay bx by' px py = true then al else xor b (lfW ax ay bx by' px py)), 0⟩)], [], some (PW ax ay bx by' px py)⟩ S v) = (
 PW ax ay bx by' px py ∧ (!onW ax ay bx by' px py) = !onW ax ay bx by' px py ∧ True ∧ (3 = 3 ∧ 0 = 0 ∧ ((if onW ax ay bx by' px py = true then i
 else n) = if onW ax ay bx by' px py = true then i else n) ∧ True) ∧ True ∧ (4 = 4 ∧ 0 = 0 ∧ ((if onW ax ay bx by' px py = true then al else b ^^ lfW ax ay bx by' px
 py) = if onW ax ay bx by' px py = true then al else b ^^ lfW ax ay bx by' px py) ∧ True) ∧ True) := by kernel_rfl
theorem cpB : ConOk Tryz.prog 183 (conR cpBC) := by
 refine con_of_vc gcpB Tryz.func183 rfl (by kernel_rfl) fun args => ?_
 unfold cpBC
 split
 · rename_i ax ay bx by' i p a ix inn
   intro o0
   show RdM.All _ (match bxP o0.c with | some (px, py) => _ | none => _) _
   split
   · rename_i px py hm0
     intro o1
     show RdM.All _ (match bxB o1.c with | some al => _ | none => _) _
     split
     · rename_i al hm1
       intro o2
       show RdM.All _ (match rwOk o2 3 0 with | true => _ | false => _) _
       split
       · rename_i hrw2
         show RdM.All _ (match bxI o2.c with | some n => _ | none => _) _
         split
         · rename_i n hm2
           intro o3
           show RdM.All _ (match rwOk o3 4 0 with | true => _ | false => _) _
           split
           · rename_i hrw3
             show RdM.All _ (match bxB o3.c with | some b => _ | none => _) _
             split
             · rename_i b hm3
               intro ho
               replace ho : PW ax ay bx by' px py := ho
               refine ⟨?_, _, _, (vc_cpB px py ax ay bx by' al i n b).mpr ?_⟩
               · refine okFlag_mk rfl ⟨?_, ⟨trivial, bxP_spec hm0, ⟨trivial, bxB_spec hm1, ⟨trivial, obR_rw hrw2 (bxI_spec hm2), ⟨trivial, obR_rw hrw3 (bxB_spec hm3), trivial⟩⟩⟩⟩⟩
                 simp [eqvRL, eqvR, kEq_self, fkEq_self, sgSig, fsts, nth, sameN_self]
               · simp [ho]
             · trivial
           · trivial
         · trivial
       · trivial
     · trivial
   · trivial
 · trivial
noncomputable def GcpG : Ctx := ⟨⟨tys, []⟩, [(184, conR cpSC)]⟩
theorem gcpG : CtxOk Tryz.prog GcpG := ⟨⟨tysOk, FlatsOk.nil⟩, GamOk.cons cpS GamOk.nil, by kernel_rfl⟩
noncomputable def cpGC : List SV → RdM
 | [.agg [.flt .f64 ax, .flt .f64 ay, .flt .f64 bx, .flt .f64 by'], .int .i64 i, .ptr p 0, .ptr a 0, .ptr ix 0, .ptr inn 0] => .read p fun o0 => (match bxP o0.c with
   | some (px, py) => .read a fun o1 => (match bxB o1.c with
   | some al => .read ix fun o2 => (match rwOk o2 3 0 with
   | true => (match bxI o2.c with
   | some n => .read inn fun o3 => (match rwOk o3 4 0 with
   | true => (match bxB o3.c with
   | some b => .ret ⟨[.agg [.flt .f64 ax, .flt .f64 ay, .flt .f64 bx, .flt .f64 by'], .int .i64 i, .ptr 0 0, .ptr 1 0, .ptr 2 0, .ptr 3 0], [(0, ⟨false, 100, bxPC px py, 0⟩), (1, ⟨false, 4, bxBC al, 0⟩), (2, ⟨true, 3, bxIC n, 0⟩), (3, ⟨true, 4, bxBC b, 0⟩)], .bool (!(onW ax ay bx by' px py)), [(2, ⟨true, 3, bxIC (if onW ax ay bx by' px py = true then i else n), 0⟩), (3, ⟨true, 4, bxBC (if onW ax ay bx by' px py = true then al else xor b (lfW ax ay bx by' px py)), 0⟩)], [], some (PW ax ay bx by' px py)⟩
   | none => .fail)
   | false => .fail)
   | none => .fail)
   | false => .fail)
   | none => .fail)
   | none => .fail)
 | _ => .fail
theorem vc_cpG (px py ax ay bx by' : Nat) (al : Bool) (i : Int) (n : Int) (b : Bool) : runA GcpG 4 [] [] (codeOf Tryz.f185) (init Tryz.f185.ntmps [.agg [.flt .f64 ax, .flt .f64 ay, .flt .f64 bx, .flt .f64 by'], .int .i64 i, .ptr 0 0, .ptr 1 0, .ptr 2 0, .ptr 3 0] [(0, ⟨false, 100, bxPC px py, 0⟩), (1, ⟨false, 4, bxBC al, 0⟩), (2, ⟨true, 3, bxIC n, 0⟩), (3, ⟨true, 4, bxBC b, 0⟩)] 4) (endK GcpG.E.T Tryz.f185.results.toList fun S v => postP 4 ⟨[.agg [.flt .f64 ax, .flt .f64 ay, .flt .f64 bx, .flt .f64 by'], .int .i64 i, .ptr 0 0, .ptr 1 0, .ptr 2 0, .ptr 3 0], [(0, ⟨false, 100, bxPC px py, 0⟩), (1, ⟨false, 4, bxBC al, 0⟩), (2, ⟨true, 3, bxIC n, 0⟩), (3, ⟨true, 4, bxBC b, 0⟩)], .bool (!(onW ax ay bx by' px py)), [(2, ⟨true, 3, bxIC (if onW ax ay bx by' px py = true then i else n), 0⟩), (3, ⟨true, 4, bxBC (if onW ax ay bx by' px py = true then al else xor b (lfW ax ay bx by' px py)), 0⟩)], [], some (PW ax ay bx by' px py)⟩ S v) = (
 PW ax ay bx by' px py ∧ (!onW ax ay bx by' px py) = !onW ax ay bx by' px py ∧ True ∧ (3 = 3 ∧ 0 = 0 ∧ ((if onW ax ay bx by' px py = true then i
 else n) = if onW ax ay bx by' px py = true then i else n) ∧ True) ∧ True ∧ (4 = 4 ∧ 0 = 0 ∧ ((if onW ax ay bx by' px py = true then al else b ^^ lfW ax ay bx by' px
 py) = if onW ax ay bx by' px py = true then al else b ^^ lfW ax ay bx by' px py) ∧ True) ∧ True) := by kernel_rfl
theorem cpG : ConOk Tryz.prog 185 (conR cpGC) := by
 refine con_of_vc gcpG Tryz.func185 rfl (by kernel_rfl) fun args => ?_
 unfold cpGC
 split
 · rename_i ax ay bx by' i p a ix inn
   intro o0
   show RdM.All _ (match bxP o0.c with | some (px, py) => _ | none => _) _
   split
   · rename_i px py hm0
     intro o1
     show RdM.All _ (match bxB o1.c with | some al => _ | none => _) _
     split
     · rename_i al hm1
       intro o2
       show RdM.All _ (match rwOk o2 3 0 with | true => _ | false => _) _
       split
       · rename_i hrw2
         show RdM.All _ (match bxI o2.c with | some n => _ | none => _) _
         split
         · rename_i n hm2
           intro o3
           show RdM.All _ (match rwOk o3 4 0 with | true => _ | false => _) _
           split
           · rename_i hrw3
             show RdM.All _ (match bxB o3.c with | some b => _ | none => _) _
             split
             · rename_i b hm3
               intro ho
               replace ho : PW ax ay bx by' px py := ho
               refine ⟨?_, _, _, (vc_cpG px py ax ay bx by' al i n b).mpr ?_⟩
               · refine okFlag_mk rfl ⟨?_, ⟨trivial, bxP_spec hm0, ⟨trivial, bxB_spec hm1, ⟨trivial, obR_rw hrw2 (bxI_spec hm2), ⟨trivial, obR_rw hrw3 (bxB_spec hm3), trivial⟩⟩⟩⟩⟩
                 simp [eqvRL, eqvR, kEq_self, fkEq_self, sgSig, fsts, nth, sameN_self]
               · simp [ho]
             · trivial
           · trivial
         · trivial
       · trivial
     · trivial
   · trivial
 · trivial
def W8 (a b c d e f g h : Nat) : Prop := (W1 a ∧ W1 b ∧ W1 c ∧ W1 d) ∧ (W1 e ∧ W1 f ∧ W1 g ∧ W1 h)
noncomputable def bad1 (ax ay bx by' cx cy dx dy : Nat) : Bool := (isW ax ay bx by' cx cy dx dy && !(onW cx cy dx dy ax ay) && !(onW cx cy dx dy bx by'))
noncomputable def ix1C : List SV → RdM
 | [.agg [.flt .f64 cx, .flt .f64 cy, .flt .f64 dx, .flt .f64 dy], .int .i64 i, .ptr p 0, .ptr a 0] => .read p fun o0 => (match bx4 o0.c with
   | some (ax, ay, bx, by') => .read a fun o1 => (match rwOk o1 4 0 with
   | true => (match bxB o1.c with
   | some b => .ret ⟨[.agg [.flt .f64 cx, .flt .f64 cy, .flt .f64 dx, .flt .f64 dy], .int .i64 i, .ptr 0 0, .ptr 1 0], [(0, ⟨false, 111, bx4C ax ay bx by', 0⟩), (1, ⟨true, 4, bxBC b, 0⟩)], .bool (!(bad1 ax ay bx by' cx cy dx dy)), [(1, ⟨true, 4, bxBC (bad1 ax ay bx by' cx cy dx dy || b), 0⟩)], [], some (W8 ax ay bx by' cx cy dx dy)⟩
   | none => .fail)
   | false => .fail)
   | none => .fail)
 | _ => .fail
theorem vc_ix1 (ax ay bx by' cx cy dx dy : Nat) (i : Int) (b : Bool) : runA GCP 2 [] [] (codeOf Tryz.f216) (init Tryz.f216.ntmps [.agg [.flt .f64 cx, .flt .f64 cy, .flt .f64 dx, .flt .f64 dy], .int .i64 i, .ptr 0 0, .ptr 1 0] [(0, ⟨false, 111, bx4C ax ay bx by', 0⟩), (1, ⟨true, 4, bxBC b, 0⟩)] 2) (endK GCP.E.T Tryz.f216.results.toList fun S v => postP 2 ⟨[.agg [.flt .f64 cx, .flt .f64 cy, .flt .f64 dx, .flt .f64 dy], .int .i64 i, .ptr 0 0, .ptr 1 0], [(0, ⟨false, 111, bx4C ax ay bx by', 0⟩), (1, ⟨true, 4, bxBC b, 0⟩)], .bool (!(bad1 ax ay bx by' cx cy dx dy)), [(1, ⟨true, 4, bxBC (bad1 ax ay bx by' cx cy dx dy || b), 0⟩)], [], some (W8 ax ay bx by' cx cy dx dy)⟩ S v) = (
 P8 ax ay bx by' cx cy dx dy (wh ax) (wh ay) (wh bx) (wh by') (wh cx) (wh cy) (wh dx) (wh
 dy) ∧ (decide (Isec (wh ax) (wh ay) (wh bx) (wh by') (wh cx) (wh cy) (wh dx) (wh dy)) =
 true → Pts cx cy dx dy ax ay (wh cx) (wh cy) (wh dx) (wh dy) (wh ax) (wh ay) ∧ ((!decide (Go.Geo.On (wh
 cx) (wh cy) (wh dx) (wh dy) (wh ax) (wh ay))) = true → Pts cx cy dx dy bx by' (wh cx) (wh cy)
(wh dx) (wh dy) (wh bx) (wh by') ∧ ((!decide (Go.Geo.On (wh cx) (wh cy) (wh dx) (wh dy)
(wh bx) (wh by'))) = true → (!bad1 ax ay bx by' cx cy dx dy) = false ∧ True ∧ (4 = 4 ∧ 0 = 0 ∧ (bad1 ax ay bx by' cx cy dx dy || b) = true ∧ True)
∧ True) ∧ ((!decide (Go.Geo.On (wh cx) (wh cy) (wh dx) (wh dy) (wh bx) (wh by'))) = false → (!bad1 ax ay bx by' cx cy dx dy)
= true ∧ True ∧ (4 = 4 ∧ 0 = 0 ∧ b = (bad1 ax ay bx by' cx cy dx dy || b) ∧ True) ∧ True)) ∧ ((!decide (Go.Geo.On (wh cx) (wh cy) (wh dx)
(wh dy) (wh ax) (wh ay))) = false → (!bad1 ax ay bx by' cx cy dx dy) = true ∧ True ∧ (4 = 4 ∧ 0 = 0 ∧ b = (bad1 ax ay bx by' cx
 cy dx dy || b) ∧ True) ∧ True)) ∧ (decide (Isec (wh ax) (wh ay) (wh bx) (wh by') (wh cx) (wh cy) (wh dx)
(wh dy)) = false → (!bad1 ax ay bx by' cx cy dx dy) = true ∧ True ∧ (4 = 4 ∧ 0 = 0 ∧ b = (bad1 ax ay bx by' cx cy dx dy || b) ∧ True) ∧ True)) := by kernel_rfl
theorem ix1 : ConOk Tryz.prog 216 (conR ix1C) := by
 refine con_of_vc gCP Tryz.func216 rfl (by kernel_rfl) fun args => ?_
 unfold ix1C
 split
 · rename_i cx cy dx dy i p a
   intro o0
   show RdM.All _ (match bx4 o0.c with | some (ax, ay, bx, by') => _ | none => _) _
   split
   · rename_i ax ay bx by' hm0
     intro o1
     show RdM.All _ (match rwOk o1 4 0 with | true => _ | false => _) _
     split
     · rename_i hrw1
       show RdM.All _ (match bxB o1.c with | some b => _ | none => _) _
       split
       · rename_i b hm1
         intro ho
         replace ho : W8 ax ay bx by' cx cy dx dy := ho
         refine ⟨?_, _, _, (vc_ix1 ax ay bx by' cx cy dx dy i b).mpr ?_⟩
         · refine okFlag_mk rfl ⟨?_, ⟨trivial, bx4_spec hm0, ⟨trivial, obR_rw hrw1 (bxB_spec hm1), trivial⟩⟩⟩
           simp [eqvRL, eqvR, kEq_self, fkEq_self, sgSig, fsts, nth, sameN_self]
         · obtain ⟨⟨h1, h2, h3, h4⟩, h5, h6, h7, h8⟩ := ho
           have k0 := p8_w h1 h2 h3 h4 h5 h6 h7 h8
           have k1 := pw_of h5 h6 h7 h8 h1 h2
           have k2 := pw_of h5 h6 h7 h8 h3 h4
           have k3 := pw_of h1 h2 h3 h4 h5 h6
           have k4 := pw_of h1 h2 h3 h4 h7 h8
           unfold PW at k1 k2 k3 k4
           have e0 : decide (Isec (wh ax) (wh ay) (wh bx) (wh by') (wh cx) (wh cy) (wh dx) (wh dy)) = isW ax ay bx by' cx cy dx dy := rfl
           have e1 : decide (On (wh cx) (wh cy) (wh dx) (wh dy) (wh ax) (wh ay)) = onW cx cy dx dy ax ay := rfl
           have e2 : decide (On (wh cx) (wh cy) (wh dx) (wh dy) (wh bx) (wh by')) = onW cx cy dx dy bx by' := rfl
           have e3 : decide (On (wh ax) (wh ay) (wh bx) (wh by') (wh cx) (wh cy)) = onW ax ay bx by' cx cy := rfl
           have e4 : decide (On (wh ax) (wh ay) (wh bx) (wh by') (wh dx) (wh dy)) = onW ax ay bx by' dx dy := rfl
           unfold bad1
           simp only [e0, e1, e2, k0, k1, k2, true_and, and_true]
           generalize isW ax ay bx by' cx cy dx dy = o0
           generalize onW cx cy dx dy ax ay = o1
           generalize onW cx cy dx dy bx by' = o2
           generalize onW ax ay bx by' cx cy = o3
           generalize onW ax ay bx by' dx dy = o4
           cases o0 <;> cases o1 <;> cases o2 <;> cases o3 <;> cases o4 <;> simp
       · trivial
     · trivial
   · trivial
 · trivial
noncomputable def bad2 (ax ay bx by' cx cy dx dy : Nat) : Bool := (isW ax ay bx by' cx cy dx dy && !(onW cx cy dx dy ax ay))
noncomputable def ix2C : List SV → RdM
 | [.agg [.flt .f64 cx, .flt .f64 cy, .flt .f64 dx, .flt .f64 dy], .int .i64 i, .ptr p 0, .ptr a 0] => .read p fun o0 => (match bx4 o0.c with
   | some (ax, ay, bx, by') => .read a fun o1 => (match rwOk o1 4 0 with
   | true => (match bxB o1.c with
   | some b => .ret ⟨[.agg [.flt .f64 cx, .flt .f64 cy, .flt .f64 dx, .flt .f64 dy], .int .i64 i, .ptr 0 0, .ptr 1 0], [(0, ⟨false, 111, bx4C ax ay bx by', 0⟩), (1, ⟨true, 4, bxBC b, 0⟩)], .bool (!(bad2 ax ay bx by' cx cy dx dy)), [(1, ⟨true, 4, bxBC (bad2 ax ay bx by' cx cy dx dy || b), 0⟩)], [], some (W8 ax ay bx by' cx cy dx dy)⟩
   | none => .fail)
   | false => .fail)
   | none => .fail)
 | _ => .fail
theorem vc_ix2 (ax ay bx by' cx cy dx dy : Nat) (i : Int) (b : Bool) : runA GCP 2 [] [] (codeOf Tryz.f217) (init Tryz.f217.ntmps [.agg [.flt .f64 cx, .flt .f64 cy, .flt .f64 dx, .flt .f64 dy], .int .i64 i, .ptr 0 0, .ptr 1 0] [(0, ⟨false, 111, bx4C ax ay bx by', 0⟩), (1, ⟨true, 4, bxBC b, 0⟩)] 2) (endK GCP.E.T Tryz.f217.results.toList fun S v => postP 2 ⟨[.agg [.flt .f64 cx, .flt .f64 cy, .flt .f64 dx, .flt .f64 dy], .int .i64 i, .ptr 0 0, .ptr 1 0], [(0, ⟨false, 111, bx4C ax ay bx by', 0⟩), (1, ⟨true, 4, bxBC b, 0⟩)], .bool (!(bad2 ax ay bx by' cx cy dx dy)), [(1, ⟨true, 4, bxBC (bad2 ax ay bx by' cx cy dx dy || b), 0⟩)], [], some (W8 ax ay bx by' cx cy dx dy)⟩ S v) = (
 P8 ax ay bx by' cx cy dx dy (wh ax) (wh ay) (wh bx) (wh by') (wh cx) (wh cy) (wh dx) (wh
 dy) ∧ (decide (Isec (wh ax) (wh ay) (wh bx) (wh by') (wh cx) (wh cy) (wh dx) (wh dy)) =
 true → Pts cx cy dx dy ax ay (wh cx) (wh cy) (wh dx) (wh dy) (wh ax) (wh ay) ∧ ((!decide (Go.Geo.On (wh
 cx) (wh cy) (wh dx) (wh dy) (wh ax) (wh ay))) = true → (!bad2 ax ay bx by' cx cy dx dy) = false ∧ True ∧ (4 = 4 ∧ 0 =
0 ∧ (bad2 ax ay bx by' cx cy dx dy || b) = true ∧ True) ∧ True) ∧ ((!decide (Go.Geo.On (wh cx) (wh cy) (wh dx) (wh dy) (wh ax)
(wh ay))) = false → (!bad2 ax ay bx by' cx cy dx dy) = true ∧ True ∧ (4 = 4 ∧ 0 = 0 ∧ b = (bad2 ax ay bx by' cx cy dx dy || b) ∧ True) ∧ True)) ∧ (decide
(Isec (wh ax) (wh ay) (wh bx) (wh by') (wh cx) (wh cy) (wh dx) (wh dy)) = false →
(!bad2 ax ay bx by' cx cy dx dy) = true ∧ True ∧ (4 = 4 ∧ 0 = 0 ∧ b = (bad2 ax ay bx by' cx cy dx dy || b) ∧ True) ∧ True)) := by kernel_rfl
theorem ix2 : ConOk Tryz.prog 217 (conR ix2C) := by
 refine con_of_vc gCP Tryz.func217 rfl (by kernel_rfl) fun args => ?_
 unfold ix2C
 split
 · rename_i cx cy dx dy i p a
   intro o0
   show RdM.All _ (match bx4 o0.c with | some (ax, ay, bx, by') => _ | none => _) _
   split
   · rename_i ax ay bx by' hm0
     intro o1
     show RdM.All _ (match rwOk o1 4 0 with | true => _ | false => _) _
     split
     · rename_i hrw1
       show RdM.All _ (match bxB o1.c with | some b => _ | none => _) _
       split
       · rename_i b hm1
         intro ho
         replace ho : W8 ax ay bx by' cx cy dx dy := ho
         refine ⟨?_, _, _, (vc_ix2 ax ay bx by' cx cy dx dy i b).mpr ?_⟩
         · refine okFlag_mk rfl ⟨?_, ⟨trivial, bx4_spec hm0, ⟨trivial, obR_rw hrw1 (bxB_spec hm1), trivial⟩⟩⟩
           simp [eqvRL, eqvR, kEq_self, fkEq_self, sgSig, fsts, nth, sameN_self]
         · obtain ⟨⟨h1, h2, h3, h4⟩, h5, h6, h7, h8⟩ := ho
           have k0 := p8_w h1 h2 h3 h4 h5 h6 h7 h8
           have k1 := pw_of h5 h6 h7 h8 h1 h2
           have k2 := pw_of h5 h6 h7 h8 h3 h4
           have k3 := pw_of h1 h2 h3 h4 h5 h6
           have k4 := pw_of h1 h2 h3 h4 h7 h8
           unfold PW at k1 k2 k3 k4
           have e0 : decide (Isec (wh ax) (wh ay) (wh bx) (wh by') (wh cx) (wh cy) (wh dx) (wh dy)) = isW ax ay bx by' cx cy dx dy := rfl
           have e1 : decide (On (wh cx) (wh cy) (wh dx) (wh dy) (wh ax) (wh ay)) = onW cx cy dx dy ax ay := rfl
           have e2 : decide (On (wh cx) (wh cy) (wh dx) (wh dy) (wh bx) (wh by')) = onW cx cy dx dy bx by' := rfl
           have e3 : decide (On (wh ax) (wh ay) (wh bx) (wh by') (wh cx) (wh cy)) = onW ax ay bx by' cx cy := rfl
           have e4 : decide (On (wh ax) (wh ay) (wh bx) (wh by') (wh dx) (wh dy)) = onW ax ay bx by' dx dy := rfl
           unfold bad2
           simp only [e0, e1, k0, k1, true_and, and_true]
           generalize isW ax ay bx by' cx cy dx dy = o0
           generalize onW cx cy dx dy ax ay = o1
           generalize onW cx cy dx dy bx by' = o2
           generalize onW ax ay bx by' cx cy = o3
           generalize onW ax ay bx by' dx dy = o4
           cases o0 <;> cases o1 <;> cases o2 <;> cases o3 <;> cases o4 <;> simp
       · trivial
     · trivial
   · trivial
 · trivial
noncomputable def bad3 (ax ay bx by' cx cy dx dy : Nat) : Bool := (isW ax ay bx by' cx cy dx dy && !(onW cx cy dx dy bx by'))
noncomputable def ix3C : List SV → RdM
 | [.agg [.flt .f64 cx, .flt .f64 cy, .flt .f64 dx, .flt .f64 dy], .int .i64 i, .ptr p 0, .ptr a 0] => .read p fun o0 => (match bx4 o0.c with
   | some (ax, ay, bx, by') => .read a fun o1 => (match rwOk o1 4 0 with
   | true => (match bxB o1.c with
   | some b => .ret ⟨[.agg [.flt .f64 cx, .flt .f64 cy, .flt .f64 dx, .flt .f64 dy], .int .i64 i, .ptr 0 0, .ptr 1 0], [(0, ⟨false, 111, bx4C ax ay bx by', 0⟩), (1, ⟨true, 4, bxBC b, 0⟩)], .bool (!(bad3 ax ay bx by' cx cy dx dy)), [(1, ⟨true, 4, bxBC (bad3 ax ay bx by' cx cy dx dy || b), 0⟩)], [], some (W8 ax ay bx by' cx cy dx dy)⟩
   | none => .fail)
   | false => .fail)
   | none => .fail)
 | _ => .fail
theorem vc_ix3 (ax ay bx by' cx cy dx dy : Nat) (i : Int) (b : Bool) : runA GCP 2 [] [] (codeOf Tryz.f218) (init Tryz.f218.ntmps [.agg [.flt .f64 cx, .flt .f64 cy, .flt .f64 dx, .flt .f64 dy], .int .i64 i, .ptr 0 0, .ptr 1 0] [(0, ⟨false, 111, bx4C ax ay bx by', 0⟩), (1, ⟨true, 4, bxBC b, 0⟩)] 2) (endK GCP.E.T Tryz.f218.results.toList fun S v => postP 2 ⟨[.agg [.flt .f64 cx, .flt .f64 cy, .flt .f64 dx, .flt .f64 dy], .int .i64 i, .ptr 0 0, .ptr 1 0], [(0, ⟨false, 111, bx4C ax ay bx by', 0⟩), (1, ⟨true, 4, bxBC b, 0⟩)], .bool (!(bad3 ax ay bx by' cx cy dx dy)), [(1, ⟨true, 4, bxBC (bad3 ax ay bx by' cx cy dx dy || b), 0⟩)], [], some (W8 ax ay bx by' cx cy dx dy)⟩ S v) = (
 P8 ax ay bx by' cx cy dx dy (wh ax) (wh ay) (wh bx) (wh by') (wh cx) (wh cy) (wh dx) (wh
 dy) ∧ (decide (Isec (wh ax) (wh ay) (wh bx) (wh by') (wh cx) (wh cy) (wh dx) (wh dy)) =
 true → Pts cx cy dx dy bx by' (wh cx) (wh cy) (wh dx) (wh dy) (wh bx) (wh by') ∧ ((!decide (Go.Geo.On (wh
 cx) (wh cy) (wh dx) (wh dy) (wh bx) (wh by'))) = true → (!bad3 ax ay bx by' cx cy dx dy) = false ∧ True ∧ (4 = 4 ∧ 0 =
0 ∧ (bad3 ax ay bx by' cx cy dx dy || b) = true ∧ True) ∧ True) ∧ ((!decide (Go.Geo.On (wh cx) (wh cy) (wh dx) (wh dy) (wh bx)
(wh by'))) = false → (!bad3 ax ay bx by' cx cy dx dy) = true ∧ True ∧ (4 = 4 ∧ 0 = 0 ∧ b = (bad3 ax ay bx by' cx cy dx dy || b) ∧ True) ∧ True)) ∧ (decide
(Isec (wh ax) (wh ay) (wh bx) (wh by') (wh cx) (wh cy) (wh dx) (wh dy)) = false →
(!bad3 ax ay bx by' cx cy dx dy) = true ∧ True ∧ (4 = 4 ∧ 0 = 0 ∧ b = (bad3 ax ay bx by' cx cy dx dy || b) ∧ True) ∧ True)) := by kernel_rfl
theorem ix3 : ConOk Tryz.prog 218 (conR ix3C) := by
 refine con_of_vc gCP Tryz.func218 rfl (by kernel_rfl) fun args => ?_
 unfold ix3C
 split
 · rename_i cx cy dx dy i p a
   intro o0
   show RdM.All _ (match bx4 o0.c with | some (ax, ay, bx, by') => _ | none => _) _
   split
   · rename_i ax ay bx by' hm0
     intro o1
     show RdM.All _ (match rwOk o1 4 0 with | true => _ | false => _) _
     split
     · rename_i hrw1
       show RdM.All _ (match bxB o1.c with | some b => _ | none => _) _
       split
       · rename_i b hm1
         intro ho
         replace ho : W8 ax ay bx by' cx cy dx dy := ho
         refine ⟨?_, _, _, (vc_ix3 ax ay bx by' cx cy dx dy i b).mpr ?_⟩
         · refine okFlag_mk rfl ⟨?_, ⟨trivial, bx4_spec hm0, ⟨trivial, obR_rw hrw1 (bxB_spec hm1), trivial⟩⟩⟩
           simp [eqvRL, eqvR, kEq_self, fkEq_self, sgSig, fsts, nth, sameN_self]
         · obtain ⟨⟨h1, h2, h3, h4⟩, h5, h6, h7, h8⟩ := ho
           have k0 := p8_w h1 h2 h3 h4 h5 h6 h7 h8
           have k1 := pw_of h5 h6 h7 h8 h1 h2
           have k2 := pw_of h5 h6 h7 h8 h3 h4
           have k3 := pw_of h1 h2 h3 h4 h5 h6
           have k4 := pw_of h1 h2 h3 h4 h7 h8
           unfold PW at k1 k2 k3 k4
           have e0 : decide (Isec (wh ax) (wh ay) (wh bx) (wh by') (wh cx) (wh cy) (wh dx) (wh dy)) = isW ax ay bx by' cx cy dx dy := rfl
           have e1 : decide (On (wh cx) (wh cy) (wh dx) (wh dy) (wh ax) (wh ay)) = onW cx cy dx dy ax ay := rfl
           have e2 : decide (On (wh cx) (wh cy) (wh dx) (wh dy) (wh bx) (wh by')) = onW cx cy dx dy bx by' := rfl
           have e3 : decide (On (wh ax) (wh ay) (wh bx) (wh by') (wh cx) (wh cy)) = onW ax ay bx by' cx cy := rfl
           have e4 : decide (On (wh ax) (wh ay) (wh bx) (wh by') (wh dx) (wh dy)) = onW ax ay bx by' dx dy := rfl
           unfold bad3
           simp only [e0, e2, k0, k2, true_and, and_true]
           generalize isW ax ay bx by' cx cy dx dy = o0
           generalize onW cx cy dx dy ax ay = o1
           generalize onW cx cy dx dy bx by' = o2
           generalize onW ax ay bx by' cx cy = o3
           generalize onW ax ay bx by' dx dy = o4
           cases o0 <;> cases o1 <;> cases o2 <;> cases o3 <;> cases o4 <;> simp
       · trivial
     · trivial
   · trivial
 · trivial
noncomputable def bad4 (ax ay bx by' cx cy dx dy : Nat) : Bool := (isW ax ay bx by' cx cy dx dy && !(onW ax ay bx by' cx cy) && !(onW ax ay bx by' dx dy))
noncomputable def ix4C : List SV → RdM
 | [.agg [.flt .f64 cx, .flt .f64 cy, .flt .f64 dx, .flt .f64 dy], .int .i64 i, .ptr p 0, .ptr a 0] => .read p fun o0 => (match bx4 o0.c with
   | some (ax, ay, bx, by') => .read a fun o1 => (match rwOk o1 4 0 with
   | true => (match bxB o1.c with
   | some b => .ret ⟨[.agg [.flt .f64 cx, .flt .f64 cy, .flt .f64 dx, .flt .f64 dy], .int .i64 i, .ptr 0 0, .ptr 1 0], [(0, ⟨false, 111, bx4C ax ay bx by', 0⟩), (1, ⟨true, 4, bxBC b, 0⟩)], .bool (!(bad4 ax ay bx by' cx cy dx dy)), [(1, ⟨true, 4, bxBC (bad4 ax ay bx by' cx cy dx dy || b), 0⟩)], [], some (W8 ax ay bx by' cx cy dx dy)⟩
   | none => .fail)
   | false => .fail)
   | none => .fail)
 | _ => .fail
theorem vc_ix4 (ax ay bx by' cx cy dx dy : Nat) (i : Int) (b : Bool) : runA GCP 2 [] [] (codeOf Tryz.f219) (init Tryz.f219.ntmps [.agg [.flt .f64 cx, .flt .f64 cy, .flt .f64 dx, .flt .f64 dy], .int .i64 i, .ptr 0 0, .ptr 1 0] [(0, ⟨false, 111, bx4C ax ay bx by', 0⟩), (1, ⟨true, 4, bxBC b, 0⟩)] 2) (endK GCP.E.T Tryz.f219.results.toList fun S v => postP 2 ⟨[.agg [.flt .f64 cx, .flt .f64 cy, .flt .f64 dx, .flt .f64 dy], .int .i64 i, .ptr 0 0, .ptr 1 0], [(0, ⟨false, 111, bx4C ax ay bx by', 0⟩), (1, ⟨true, 4, bxBC b, 0⟩)], .bool (!(bad4 ax ay bx by' cx cy dx dy)), [(1, ⟨true, 4, bxBC (bad4 ax ay bx by' cx cy dx dy || b), 0⟩)], [], some (W8 ax ay bx by' cx cy dx dy)⟩ S v) = (
 P8 ax ay bx by' cx cy dx dy (wh ax) (wh ay) (wh bx) (wh by') (wh cx) (wh cy) (wh dx) (wh
 dy) ∧ (decide (Isec (wh ax) (wh ay) (wh bx) (wh by') (wh cx) (wh cy) (wh dx) (wh dy)) =
 true → Pts ax ay bx by' cx cy (wh ax) (wh ay) (wh bx) (wh by') (wh cx) (wh cy) ∧ ((!decide (Go.Geo.On (wh
 ax) (wh ay) (wh bx) (wh by') (wh cx) (wh cy))) = true → Pts ax ay bx by' dx dy (wh ax) (wh ay)
(wh bx) (wh by') (wh dx) (wh dy) ∧ ((!decide (Go.Geo.On (wh ax) (wh ay) (wh bx) (wh by')
(wh dx) (wh dy))) = true → (!bad4 ax ay bx by' cx cy dx dy) = false ∧ True ∧ (4 = 4 ∧ 0 = 0 ∧ (bad4 ax ay bx by' cx cy dx dy || b) = true ∧ True)
∧ True) ∧ ((!decide (Go.Geo.On (wh ax) (wh ay) (wh bx) (wh by') (wh dx) (wh dy))) = false → (!bad4 ax ay bx by' cx cy dx dy)
= true ∧ True ∧ (4 = 4 ∧ 0 = 0 ∧ b = (bad4 ax ay bx by' cx cy dx dy || b) ∧ True) ∧ True)) ∧ ((!decide (Go.Geo.On (wh ax) (wh ay) (wh bx)
(wh by') (wh cx) (wh cy))) = false → (!bad4 ax ay bx by' cx cy dx dy) = true ∧ True ∧ (4 = 4 ∧ 0 = 0 ∧ b = (bad4 ax ay bx by' cx
 cy dx dy || b) ∧ True) ∧ True)) ∧ (decide (Isec (wh ax) (wh ay) (wh bx) (wh by') (wh cx) (wh cy) (wh dx)
(wh dy)) = false → (!bad4 ax ay bx by' cx cy dx dy) = true ∧ True ∧ (4 = 4 ∧ 0 = 0 ∧ b = (bad4 ax ay bx by' cx cy dx dy || b) ∧ True) ∧ True)) := by kernel_rfl
theorem ix4 : ConOk Tryz.prog 219 (conR ix4C) := by
 refine con_of_vc gCP Tryz.func219 rfl (by kernel_rfl) fun args => ?_
 unfold ix4C
 split
 · rename_i cx cy dx dy i p a
   intro o0
   show RdM.All _ (match bx4 o0.c with | some (ax, ay, bx, by') => _ | none => _) _
   split
   · rename_i ax ay bx by' hm0
     intro o1
     show RdM.All _ (match rwOk o1 4 0 with | true => _ | false => _) _
     split
     · rename_i hrw1
       show RdM.All _ (match bxB o1.c with | some b => _ | none => _) _
       split
       · rename_i b hm1
         intro ho
         replace ho : W8 ax ay bx by' cx cy dx dy := ho
         refine ⟨?_, _, _, (vc_ix4 ax ay bx by' cx cy dx dy i b).mpr ?_⟩
         · refine okFlag_mk rfl ⟨?_, ⟨trivial, bx4_spec hm0, ⟨trivial, obR_rw hrw1 (bxB_spec hm1), trivial⟩⟩⟩
           simp [eqvRL, eqvR, kEq_self, fkEq_self, sgSig, fsts, nth, sameN_self]
         · obtain ⟨⟨h1, h2, h3, h4⟩, h5, h6, h7, h8⟩ := ho
           have k0 := p8_w h1 h2 h3 h4 h5 h6 h7 h8
           have k1 := pw_of h5 h6 h7 h8 h1 h2
           have k2 := pw_of h5 h6 h7 h8 h3 h4
           have k3 := pw_of h1 h2 h3 h4 h5 h6
           have k4 := pw_of h1 h2 h3 h4 h7 h8
           unfold PW at k1 k2 k3 k4
           have e0 : decide (Isec (wh ax) (wh ay) (wh bx) (wh by') (wh cx) (wh cy) (wh dx) (wh dy)) = isW ax ay bx by' cx cy dx dy := rfl
           have e1 : decide (On (wh cx) (wh cy) (wh dx) (wh dy) (wh ax) (wh ay)) = onW cx cy dx dy ax ay := rfl
           have e2 : decide (On (wh cx) (wh cy) (wh dx) (wh dy) (wh bx) (wh by')) = onW cx cy dx dy bx by' := rfl
           have e3 : decide (On (wh ax) (wh ay) (wh bx) (wh by') (wh cx) (wh cy)) = onW ax ay bx by' cx cy := rfl
           have e4 : decide (On (wh ax) (wh ay) (wh bx) (wh by') (wh dx) (wh dy)) = onW ax ay bx by' dx dy := rfl
           unfold bad4
           simp only [e0, e3, e4, k0, k3, k4, true_and, and_true]
           generalize isW ax ay bx by' cx cy dx dy = o0
           generalize onW cx cy dx dy ax ay = o1
           generalize onW cx cy dx dy bx by' = o2
           generalize onW ax ay bx by' cx cy = o3
           generalize onW ax ay bx by' dx dy = o4
           cases o0 <;> cases o1 <;> cases o2 <;> cases o3 <;> cases o4 <;> simp
       · trivial
     · trivial
   · trivial
 · trivial
noncomputable def bad5 (ax ay bx by' cx cy dx dy : Nat) : Bool := (isW ax ay bx by' cx cy dx dy)
noncomputable def ix5C : List SV → RdM
 | [.agg [.flt .f64 cx, .flt .f64 cy, .flt .f64 dx, .flt .f64 dy], .int .i64 i, .ptr p 0, .ptr a 0] => .read p fun o0 => (match bx4 o0.c with
   | some (ax, ay, bx, by') => .read a fun o1 => (match rwOk o1 4 0 with
   | true => (match bxB o1.c with
   | some b => .ret ⟨[.agg [.flt .f64 cx, .flt .f64 cy, .flt .f64 dx, .flt .f64 dy], .int .i64 i, .ptr 0 0, .ptr 1 0], [(0, ⟨false, 111, bx4C ax ay bx by', 0⟩), (1, ⟨true, 4, bxBC b, 0⟩)], .bool (!(bad5 ax ay bx by' cx cy dx dy)), [(1, ⟨true, 4, bxBC (bad5 ax ay bx by' cx cy dx dy || b), 0⟩)], [], some (W8 ax ay bx by' cx cy dx dy)⟩
   | none => .fail)
   | false => .fail)
   | none => .fail)
 | _ => .fail
theorem vc_ix5 (ax ay bx by' cx cy dx dy : Nat) (i : Int) (b : Bool) : runA GCP 2 [] [] (codeOf Tryz.f220) (init Tryz.f220.ntmps [.agg [.flt .f64 cx, .flt .f64 cy, .flt .f64 dx, .flt .f64 dy], .int .i64 i, .ptr 0 0, .ptr 1 0] [(0, ⟨false, 111, bx4C ax ay bx by', 0⟩), (1, ⟨true, 4, bxBC b, 0⟩)] 2) (endK GCP.E.T Tryz.f220.results.toList fun S v => postP 2 ⟨[.agg [.flt .f64 cx, .flt .f64 cy, .flt .f64 dx, .flt .f64 dy], .int .i64 i, .ptr 0 0, .ptr 1 0], [(0, ⟨false, 111, bx4C ax ay bx by', 0⟩), (1, ⟨true, 4, bxBC b, 0⟩)], .bool (!(bad5 ax ay bx by' cx cy dx dy)), [(1, ⟨true, 4, bxBC (bad5 ax ay bx by' cx cy dx dy || b), 0⟩)], [], some (W8 ax ay bx by' cx cy dx dy)⟩ S v) = (
 P8 ax ay bx by' cx cy dx dy (wh ax) (wh ay) (wh bx) (wh by') (wh cx) (wh cy) (wh dx) (wh
 dy) ∧ (decide (Isec (wh ax) (wh ay) (wh bx) (wh by') (wh cx) (wh cy) (wh dx) (wh dy)) =
 true → (!bad5 ax ay bx by' cx cy dx dy) = false ∧ True ∧ (4 = 4 ∧ 0 = 0 ∧ (bad5 ax ay bx by' cx cy dx dy || b) = true ∧ True) ∧ True) ∧ (decide (Isec
(wh ax) (wh ay) (wh bx) (wh by') (wh cx) (wh cy) (wh dx) (wh dy)) = false → (!bad5 ax ay
 bx by' cx cy dx dy) = true ∧ True ∧ (4 = 4 ∧ 0 = 0 ∧ b = (bad5 ax ay bx by' cx cy dx dy || b) ∧ True) ∧ True)) := by kernel_rfl
theorem ix5 : ConOk Tryz.prog 220 (conR ix5C) := by
 refine con_of_vc gCP Tryz.func220 rfl (by kernel_rfl) fun args => ?_
 unfold ix5C
 split
 · rename_i cx cy dx dy i p a
   intro o0
   show RdM.All _ (match bx4 o0.c with | some (ax, ay, bx, by') => _ | none => _) _
   split
   · rename_i ax ay bx by' hm0
     intro o1
     show RdM.All _ (match rwOk o1 4 0 with | true => _ | false => _) _
     split
     · rename_i hrw1
       show RdM.All _ (match bxB o1.c with | some b => _ | none => _) _
       split
       · rename_i b hm1
         intro ho
         replace ho : W8 ax ay bx by' cx cy dx dy := ho
         refine ⟨?_, _, _, (vc_ix5 ax ay bx by' cx cy dx dy i b).mpr ?_⟩
         · refine okFlag_mk rfl ⟨?_, ⟨trivial, bx4_spec hm0, ⟨trivial, obR_rw hrw1 (bxB_spec hm1), trivial⟩⟩⟩
           simp [eqvRL, eqvR, kEq_self, fkEq_self, sgSig, fsts, nth, sameN_self]
         · obtain ⟨⟨h1, h2, h3, h4⟩, h5, h6, h7, h8⟩ := ho
           have k0 := p8_w h1 h2 h3 h4 h5 h6 h7 h8
           have k1 := pw_of h5 h6 h7 h8 h1 h2
           have k2 := pw_of h5 h6 h7 h8 h3 h4
           have k3 := pw_of h1 h2 h3 h4 h5 h6
           have k4 := pw_of h1 h2 h3 h4 h7 h8
           unfold PW at k1 k2 k3 k4
           have e0 : decide (Isec (wh ax) (wh ay) (wh bx) (wh by') (wh cx) (wh cy) (wh dx) (wh dy)) = isW ax ay bx by' cx cy dx dy := rfl
           have e1 : decide (On (wh cx) (wh cy) (wh dx) (wh dy) (wh ax) (wh ay)) = onW cx cy dx dy ax ay := rfl
           have e2 : decide (On (wh cx) (wh cy) (wh dx) (wh dy) (wh bx) (wh by')) = onW cx cy dx dy bx by' := rfl
           have e3 : decide (On (wh ax) (wh ay) (wh bx) (wh by') (wh cx) (wh cy)) = onW ax ay bx by' cx cy := rfl
           have e4 : decide (On (wh ax) (wh ay) (wh bx) (wh by') (wh dx) (wh dy)) = onW ax ay bx by' dx dy := rfl
           unfold bad5
           simp only [e0, k0, true_and, and_true]
           generalize isW ax ay bx by' cx cy dx dy = o0
           generalize onW cx cy dx dy ax ay = o1
           generalize onW cx cy dx dy bx by' = o2
           generalize onW ax ay bx by' cx cy = o3
           generalize onW ax ay bx by' dx dy = o4
           cases o0 <;> cases o1 <;> cases o2 <;> cases o3 <;> cases o4 <;> simp
       · trivial
     · trivial
   · trivial
 · trivial
noncomputable def clW (ax ay bx by' cx cy dx dy : Nat) : Bool := decide (xp (wh cx - wh ax) (wh cy - wh ay) (wh bx - wh ax) (wh by' - wh ay) = 0) && decide (xp (wh dx - wh ax) (wh dy - wh ay) (wh bx - wh ax) (wh by' - wh ay) = 0)
noncomputable def eqW (px py cx cy dx dy : Nat) : Bool := decide (wh px = wh cx ∧ wh py = wh cy) || decide (wh px = wh dx ∧ wh py = wh dy)
def stp (al isc col aeq beq ao bo : Bool) (ct : Int) : Bool × Bool × Bool × Int :=
 if isc = false then (decide (ct < 2), ao, bo, ct)
 else if al = true then (decide (ct + 1 < 2), ao, bo, ct + 1)
 else if col = true then (decide (ct < 2), ao, bo, ct)
 else if (!ao && aeq) = true then (true, true, bo, ct)
 else if (!bo && beq) = true then (true, ao, true, ct)
 else (decide (ct + 1 < 2), ao, bo, ct + 1)
noncomputable def isStp (ax ay bx by' cx cy dx dy : Nat) (al ao bo : Bool) (ct : Int) : Bool × Bool × Bool × Int :=
 stp al (isW ax ay bx by' cx cy dx dy) (clW ax ay bx by' cx cy dx dy) (eqW ax ay cx cy dx dy) (eqW bx by' cx cy dx dy) ao bo ct
noncomputable def isCC : List SV → RdM
 | [.agg [.flt .f64 cx, .flt .f64 cy, .flt .f64 dx, .flt .f64 dy], .int .i64 i, .ptr p 0, .ptr a 0, .ptr x 0, .ptr y 0, .ptr z 0] => .read p fun o0 => (match bx4 o0.c with
   | some (ax, ay, bx, by') => .read a fun o1 => (match bxB o1.c with
   | some al => .read x fun o2 => (match rwOk o2 4 0 with
   | true => (match bxB o2.c with
   | some ao => .read y fun o3 => (match rwOk o3 4 0 with
   | true => (match bxB o3.c with
   | some bo => .read z fun o4 => (match rwOk o4 3 0 with
   | true => (match bxI o4.c with
   | some ct => .ret ⟨[.agg [.flt .f64 cx, .flt .f64 cy, .flt .f64 dx, .flt .f64 dy], .int .i64 i, .ptr 0 0, .ptr 1 0, .ptr 2 0, .ptr 3 0, .ptr 4 0], [(0, ⟨false, 111, bx4C ax ay bx by', 0⟩), (1, ⟨false, 4, bxBC al, 0⟩), (2, ⟨true, 4, bxBC ao, 0⟩), (3, ⟨true, 4, bxBC bo, 0⟩), (4, ⟨true, 3, bxIC ct, 0⟩)], .bool (isStp ax ay bx by' cx cy dx dy al ao bo ct).1, [(2, ⟨true, 4, bxBC (isStp ax ay bx by' cx cy dx dy al ao bo ct).2.1, 0⟩), (3, ⟨true, 4, bxBC (isStp ax ay bx by' cx cy dx dy al ao bo ct).2.2.1, 0⟩), (4, ⟨true, 3, bxIC (isStp ax ay bx by' cx cy dx dy al ao bo ct).2.2.2, 0⟩)], [], some (W8 ax ay bx by' cx cy dx dy ∧ 0 ≤ ct ∧ ct ≤ 1000000)⟩
   | none => .fail)
   | false => .fail)
   | none => .fail)
   | false => .fail)
   | none => .fail)
   | false => .fail)
   | none => .fail)
   | none => .fail)
 | _ => .fail
theorem vc_isC (ax ay bx by' cx cy dx dy : Nat) (i : Int) (al ao bo : Bool) (ct : Int) : runA GCP 5 [] [] (codeOf Tryz.f209) (init Tryz.f209.ntmps [.agg [.flt .f64 cx, .flt .f64 cy, .flt .f64 dx, .flt .f64 dy], .int .i64 i, .ptr 0 0, .ptr 1 0, .ptr 2 0, .ptr 3 0, .ptr 4 0] [(0, ⟨false, 111, bx4C ax ay bx by', 0⟩), (1, ⟨false, 4, bxBC al, 0⟩), (2, ⟨true, 4, bxBC ao, 0⟩), (3, ⟨true, 4, bxBC bo, 0⟩), (4, ⟨true, 3, bxIC ct, 0⟩)] 5) (endK GCP.E.T Tryz.f209.results.toList fun S v => postP 5 ⟨[.agg [.flt .f64 cx, .flt .f64 cy, .flt .f64 dx, .flt .f64 dy], .int .i64 i, .ptr 0 0, .ptr 1 0, .ptr 2 0, .ptr 3 0, .ptr 4 0], [(0, ⟨false, 111, bx4C ax ay bx by', 0⟩), (1, ⟨false, 4, bxBC al, 0⟩), (2, ⟨true, 4, bxBC ao, 0⟩), (3, ⟨true, 4, bxBC bo, 0⟩), (4, ⟨true, 3, bxIC ct, 0⟩)], .bool (isStp ax ay bx by' cx cy dx dy al ao bo ct).1, [(2, ⟨true, 4, bxBC (isStp ax ay bx by' cx cy dx dy al ao bo ct).2.1, 0⟩), (3, ⟨true, 4, bxBC (isStp ax ay bx by' cx cy dx dy al ao bo ct).2.2.1, 0⟩), (4, ⟨true, 3, bxIC (isStp ax ay bx by' cx cy dx dy al ao bo ct).2.2.2, 0⟩)], [], some (W8 ax ay bx by' cx cy dx dy ∧ 0 ≤ ct ∧ ct ≤ 1000000)⟩ S v) = (
 P8 ax ay bx by' cx cy dx dy (wh ax) (wh ay) (wh bx) (wh by') (wh cx) (wh cy) (wh dx) (wh
 dy) ∧ (decide (Isec (wh ax) (wh ay) (wh bx) (wh by') (wh cx) (wh cy) (wh dx) (wh dy)) =
 true → ((!al) = true → P8 ax ay bx by' cx cy cx cy (wh ax) (wh ay) (wh bx) (wh by') (wh cx) (wh cy) (wh
 cx) (wh cy) ∧ (decide (xp (wh cx - wh ax) (wh cy - wh ay) (wh bx - wh ax) (wh by' -
 wh ay) = (0 : Int)) = true → P8 ax ay bx by' dx dy dx dy (wh ax) (wh ay) (wh bx) (wh by') (wh dx) (wh dy)
(wh dx) (wh dy) ∧ ((!decide (xp (wh dx - wh ax) (wh dy - wh ay) (wh bx - wh ax)
(wh by' - wh ay) = (0 : Int))) = true → ((!ao) = true → ((fEq .f64 ax cx && (fEq .f64 ay cy && true)) = true → (isStp ax ay bx by' cx cy dx dy al ao bo ct).1 = true ∧ True ∧ (4 = 4 ∧ 0 = 0 ∧ ((isStp ax ay bx by' cx cy dx dy al ao bo ct).2).1 = true ∧ True) ∧ True ∧ (4 = 4 ∧ 0 = 0 ∧ bo = ((Prod.snd
(isStp ax ay bx by' cx cy dx dy al ao bo ct)).2).1 ∧ True) ∧ True ∧ (3 = 3 ∧ 0 = 0 ∧ ct = (((isStp ax ay bx by' cx cy dx dy al ao bo ct).2).2).2 ∧ True) ∧ True) ∧
((fEq .f64 ax cx && (fEq .f64 ay cy && true)) = false → ((fEq .f64 ax dx && (fEq .f64 ay dy && true)) = true → (isStp ax ay bx by' cx cy dx dy al ao bo ct).1 = true ∧ True ∧ (4 = 4 ∧ 0 = 0 ∧ ((isStp ax ay bx by' cx cy dx dy al ao bo ct).2).1 = true ∧ True) ∧ True ∧ (4 = 4 ∧ 0 = 0 ∧ bo = (((isStp ax ay bx by'
 cx cy dx dy al ao bo ct).2).2).1 ∧ True) ∧ True ∧ (3 = 3 ∧ 0 = 0 ∧ ct = (((isStp ax ay bx by' cx cy dx dy al ao bo ct).2).2).2 ∧ True) ∧ True) ∧ ((fEq .f64 ax dx && (fEq
.f64 ay dy && true)) = false → ((!bo) = true → ((fEq .f64 bx cx && (fEq .f64 by' cy && true)) = true → (isStp ax ay bx by' cx cy dx dy al ao bo ct).1 = true ∧ True ∧ (4 = 4 ∧ 0 = 0
∧ ao = ((isStp ax ay bx by' cx cy dx dy al ao bo ct).2).1 ∧ True) ∧ True ∧ (4 = 4 ∧ 0 = 0 ∧ (((isStp ax ay bx by' cx cy dx dy al ao bo ct).2).2).1
= true ∧ True) ∧ True ∧ (3 = 3 ∧ 0 = 0 ∧ ct = (((isStp ax ay bx by' cx cy dx dy al ao bo ct).2).2).2 ∧ True) ∧ True) ∧ ((fEq .f64 bx cx && (fEq .f64 by' cy && true)) =
 false → ((fEq .f64 bx dx && (fEq .f64 by' dy && true)) = true → (isStp ax ay bx by' cx cy dx dy al ao bo ct).1 = true ∧ True ∧ (4 = 4 ∧ 0 = 0 ∧ ao = (Prod.snd
(isStp ax ay bx by' cx cy dx dy al ao bo ct)).1 ∧ True) ∧ True ∧ (4 = 4 ∧ 0 = 0 ∧ (((isStp ax ay bx by' cx cy dx dy al ao bo ct).2).2).1 = true ∧ True) ∧ True ∧
(3 = 3 ∧ 0 = 0 ∧ ct = (((isStp ax ay bx by' cx cy dx dy al ao bo ct).2).2).2 ∧ True) ∧ True) ∧ ((fEq .f64 bx dx && (fEq .f64 by' dy && true)) = false → decide
(Go.IntKind.wrap .i64 (ct + (1 : Int)) < (2 : Int)) = (isStp ax ay bx by' cx cy dx dy al ao bo ct).1 ∧ True ∧ (4 = 4 ∧ 0 = 0 ∧ ao = ((isStp ax ay bx by' cx
 cy dx dy al ao bo ct).2).1 ∧ True) ∧ True ∧ (4 = 4 ∧ 0 = 0 ∧ bo = (((isStp ax ay bx by' cx cy dx dy al ao bo ct).2).2).1 ∧ True) ∧ True ∧ (3 = 3 ∧ 0 = 0 ∧ Go.IntKind.wrap .i64 (ct + (1 : Int)) = (((isStp ax ay bx by' cx cy dx dy al ao bo ct).2).2).2 ∧ True) ∧ True))) ∧ ((!bo) = false → decide (Go.IntKind.wrap .i64 (ct + (1 : Int)) < (2 : Int)) = Prod.fst
(isStp ax ay bx by' cx cy dx dy al ao bo ct) ∧ True ∧ (4 = 4 ∧ 0 = 0 ∧ ao = ((isStp ax ay bx by' cx cy dx dy al ao bo ct).2).1 ∧ True) ∧ True ∧ (4 = 4 ∧
0 = 0 ∧ bo = (((isStp ax ay bx by' cx cy dx dy al ao bo ct).2).2).1 ∧ True) ∧ True ∧ (3 = 3 ∧ 0 = 0 ∧ Go.IntKind.wrap .i64 (ct + (1 : Int)) = (Prod.snd
((isStp ax ay bx by' cx cy dx dy al ao bo ct).2)).2 ∧ True) ∧ True)))) ∧ ((!ao) = false → ((!bo) = true → ((fEq .f64 bx cx && (fEq .f64 by' cy && true)) = true → (isStp ax ay bx by' cx cy
 dx dy al ao bo ct).1 = true ∧ True ∧ (4 = 4 ∧ 0 = 0 ∧ ao = ((isStp ax ay bx by' cx cy dx dy al ao bo ct).2).1 ∧ True) ∧ True ∧ (4 = 4 ∧ 0 = 0 ∧ Prod.fst
(((isStp ax ay bx by' cx cy dx dy al ao bo ct).2).2) = true ∧ True) ∧ True ∧ (3 = 3 ∧ 0 = 0 ∧ ct = (((isStp ax ay bx by' cx cy dx dy al ao bo
 ct).2).2).2 ∧ True) ∧ True) ∧ ((fEq .f64 bx cx && (fEq .f64 by' cy && true)) = false → ((fEq .f64 bx dx && (fEq .f64 by' dy && true)) = true → (isStp ax ay bx by' cx cy dx dy al ao bo ct).1 = true ∧ True ∧
(4 = 4 ∧ 0 = 0 ∧ ao = ((isStp ax ay bx by' cx cy dx dy al ao bo ct).2).1 ∧ True) ∧ True ∧ (4 = 4 ∧ 0 = 0 ∧ ((Prod.snd
(isStp ax ay bx by' cx cy dx dy al ao bo ct)).2).1 = true ∧ True) ∧ True ∧ (3 = 3 ∧ 0 = 0 ∧ ct = (((isStp ax ay bx by' cx cy dx dy al ao bo ct).2).2).2 ∧ True) ∧
 True) ∧ ((fEq .f64 bx dx && (fEq .f64 by' dy && true)) = false → decide (Go.IntKind.wrap .i64 (ct + (1 : Int)) < (2 : Int)) = (isStp ax ay bx by' cx cy dx dy al ao bo ct).1 ∧ True ∧ (4 = 4 ∧ 0 = 0 ∧ ao = ((isStp ax ay bx by' cx cy dx dy al ao bo ct).2).1 ∧ True) ∧ True ∧ (4 = 4 ∧ 0 = 0 ∧ bo = (((isStp ax ay bx by' cx cy
 dx dy al ao bo ct).2).2).1 ∧ True) ∧ True ∧ (3 = 3 ∧ 0 = 0 ∧ Go.IntKind.wrap .i64 (ct + (1 : Int)) = (((isStp ax ay bx by' cx cy dx dy al ao bo ct).2).2).2 ∧ True) ∧ True))) ∧ ((!bo) =
 false → decide (Go.IntKind.wrap .i64 (ct + (1 : Int)) < (2 : Int)) = (isStp ax ay bx by' cx cy dx dy al ao bo ct).1 ∧ True ∧ (4 = 4 ∧ 0 = 0 ∧ ao = ((isStp ax
 ay bx by' cx cy dx dy al ao bo ct).2).1 ∧ True) ∧ True ∧ (4 = 4 ∧ 0 = 0 ∧ bo = (((isStp ax ay bx by' cx cy dx dy al ao bo ct).2).2).1 ∧ True) ∧ True ∧ (3 = 3 ∧ 0 = 0 ∧ Go.IntKind.wrap .i64 (ct + (1 : Int)) = (((isStp ax ay bx by' cx cy dx dy al ao bo ct).2).2).2 ∧ True) ∧ True))) ∧ ((!decide (xp (wh dx -
 wh ax) (wh dy - wh ay) (wh bx - wh ax) (wh by' - wh ay) = (0 : Int))) = false → decide (ct < (2 : Int)) = Prod.fst
(isStp ax ay bx by' cx cy dx dy al ao bo ct) ∧ True ∧ (4 = 4 ∧ 0 = 0 ∧ ao = ((isStp ax ay bx by' cx cy dx dy al ao bo ct).2).1 ∧ True) ∧ True ∧ (4 = 4 ∧
0 = 0 ∧ bo = (((isStp ax ay bx by' cx cy dx dy al ao bo ct).2).2).1 ∧ True) ∧ True ∧ (3 = 3 ∧ 0 = 0 ∧ ct = (((isStp ax
 ay bx by' cx cy dx dy al ao bo ct).2).2).2 ∧ True) ∧ True)) ∧ (decide (xp (wh cx - wh ax) (wh cy - wh ay) (wh bx - wh ax)
(wh by' - wh ay) = (0 : Int)) = false → ((!ao) = true → ((fEq .f64 ax cx && (fEq .f64 ay cy && true)) = true → (isStp ax ay bx by' cx cy dx dy al ao bo ct).1 = true ∧ True ∧ (4 = 4 ∧ 0 = 0 ∧ ((isStp ax ay bx by' cx cy dx dy al ao bo ct).2).1 = true ∧ True) ∧ True ∧ (4 = 4 ∧ 0 = 0 ∧ bo = ((Prod.snd
(isStp ax ay bx by' cx cy dx dy al ao bo ct)).2).1 ∧ True) ∧ True ∧ (3 = 3 ∧ 0 = 0 ∧ ct = (((isStp ax ay bx by' cx cy dx dy al ao bo ct).2).2).2 ∧ True) ∧ True) ∧
((fEq .f64 ax cx && (fEq .f64 ay cy && true)) = false → ((fEq .f64 ax dx && (fEq .f64 ay dy && true)) = true → (isStp ax ay bx by' cx cy dx dy al ao bo ct).1 = true ∧ True ∧ (4 = 4 ∧ 0 = 0 ∧ ((isStp ax ay bx by' cx cy dx dy al ao bo ct).2).1 = true ∧ True) ∧ True ∧ (4 = 4 ∧ 0 = 0 ∧ bo = (((isStp ax ay bx by'
 cx cy dx dy al ao bo ct).2).2).1 ∧ True) ∧ True ∧ (3 = 3 ∧ 0 = 0 ∧ ct = (((isStp ax ay bx by' cx cy dx dy al ao bo ct).2).2).2 ∧ True) ∧ True) ∧ ((fEq .f64 ax dx && (fEq
.f64 ay dy && true)) = false → ((!bo) = true → ((fEq .f64 bx cx && (fEq .f64 by' cy && true)) = true → (isStp ax ay bx by' cx cy dx dy al ao bo ct).1 = true ∧ True ∧ (4 = 4 ∧ 0 = 0
∧ ao = ((isStp ax ay bx by' cx cy dx dy al ao bo ct).2).1 ∧ True) ∧ True ∧ (4 = 4 ∧ 0 = 0 ∧ (((isStp ax ay bx by' cx cy dx dy al ao bo ct).2).2).1
= true ∧ True) ∧ True ∧ (3 = 3 ∧ 0 = 0 ∧ ct = (((isStp ax ay bx by' cx cy dx dy al ao bo ct).2).2).2 ∧ True) ∧ True) ∧ ((fEq .f64 bx cx && (fEq .f64 by' cy && true)) =
 false → ((fEq .f64 bx dx && (fEq .f64 by' dy && true)) = true → (isStp ax ay bx by' cx cy dx dy al ao bo ct).1 = true ∧ True ∧ (4 = 4 ∧ 0 = 0 ∧ ao = (Prod.snd
(isStp ax ay bx by' cx cy dx dy al ao bo ct)).1 ∧ True) ∧ True ∧ (4 = 4 ∧ 0 = 0 ∧ (((isStp ax ay bx by' cx cy dx dy al ao bo ct).2).2).1 = true ∧ True) ∧ True ∧
(3 = 3 ∧ 0 = 0 ∧ ct = (((isStp ax ay bx by' cx cy dx dy al ao bo ct).2).2).2 ∧ True) ∧ True) ∧ ((fEq .f64 bx dx && (fEq .f64 by' dy && true)) = false → decide
(Go.IntKind.wrap .i64 (ct + (1 : Int)) < (2 : Int)) = (isStp ax ay bx by' cx cy dx dy al ao bo ct).1 ∧ True ∧ (4 = 4 ∧ 0 = 0 ∧ ao = ((isStp ax ay bx by' cx
 cy dx dy al ao bo ct).2).1 ∧ True) ∧ True ∧ (4 = 4 ∧ 0 = 0 ∧ bo = (((isStp ax ay bx by' cx cy dx dy al ao bo ct).2).2).1 ∧ True) ∧ True ∧ (3 = 3 ∧ 0 = 0 ∧ Go.IntKind.wrap .i64 (ct + (1 : Int)) = (((isStp ax ay bx by' cx cy dx dy al ao bo ct).2).2).2 ∧ True) ∧ True))) ∧ ((!bo) = false → decide (Go.IntKind.wrap .i64 (ct + (1 : Int)) < (2 : Int)) = Prod.fst
(isStp ax ay bx by' cx cy dx dy al ao bo ct) ∧ True ∧ (4 = 4 ∧ 0 = 0 ∧ ao = ((isStp ax ay bx by' cx cy dx dy al ao bo ct).2).1 ∧ True) ∧ True ∧ (4 = 4 ∧
0 = 0 ∧ bo = (((isStp ax ay bx by' cx cy dx dy al ao bo ct).2).2).1 ∧ True) ∧ True ∧ (3 = 3 ∧ 0 = 0 ∧ Go.IntKind.wrap .i64 (ct + (1 : Int)) = (Prod.snd
((isStp ax ay bx by' cx cy dx dy al ao bo ct).2)).2 ∧ True) ∧ True)))) ∧ ((!ao) = false → ((!bo) = true → ((fEq .f64 bx cx && (fEq .f64 by' cy && true)) = true → (isStp ax ay bx by' cx cy
 dx dy al ao bo ct).1 = true ∧ True ∧ (4 = 4 ∧ 0 = 0 ∧ ao = ((isStp ax ay bx by' cx cy dx dy al ao bo ct).2).1 ∧ True) ∧ True ∧ (4 = 4 ∧ 0 = 0 ∧ Prod.fst
(((isStp ax ay bx by' cx cy dx dy al ao bo ct).2).2) = true ∧ True) ∧ True ∧ (3 = 3 ∧ 0 = 0 ∧ ct = (((isStp ax ay bx by' cx cy dx dy al ao bo
 ct).2).2).2 ∧ True) ∧ True) ∧ ((fEq .f64 bx cx && (fEq .f64 by' cy && true)) = false → ((fEq .f64 bx dx && (fEq .f64 by' dy && true)) = true → (isStp ax ay bx by' cx cy dx dy al ao bo ct).1 = true ∧ True ∧
(4 = 4 ∧ 0 = 0 ∧ ao = ((isStp ax ay bx by' cx cy dx dy al ao bo ct).2).1 ∧ True) ∧ True ∧ (4 = 4 ∧ 0 = 0 ∧ ((Prod.snd
(isStp ax ay bx by' cx cy dx dy al ao bo ct)).2).1 = true ∧ True) ∧ True ∧ (3 = 3 ∧ 0 = 0 ∧ ct = (((isStp ax ay bx by' cx cy dx dy al ao bo ct).2).2).2 ∧ True) ∧
 True) ∧ ((fEq .f64 bx dx && (fEq .f64 by' dy && true)) = false → decide (Go.IntKind.wrap .i64 (ct + (1 : Int)) < (2 : Int)) = (isStp ax ay bx by' cx cy dx dy al ao bo ct).1 ∧ True ∧ (4 = 4 ∧ 0 = 0 ∧ ao = ((isStp ax ay bx by' cx cy dx dy al ao bo ct).2).1 ∧ True) ∧ True ∧ (4 = 4 ∧ 0 = 0 ∧ bo = (((isStp ax ay bx by' cx cy
 dx dy al ao bo ct).2).2).1 ∧ True) ∧ True ∧ (3 = 3 ∧ 0 = 0 ∧ Go.IntKind.wrap .i64 (ct + (1 : Int)) = (((isStp ax ay bx by' cx cy dx dy al ao bo ct).2).2).2 ∧ True) ∧ True))) ∧ ((!bo) =
 false → decide (Go.IntKind.wrap .i64 (ct + (1 : Int)) < (2 : Int)) = (isStp ax ay bx by' cx cy dx dy al ao bo ct).1 ∧ True ∧ (4 = 4 ∧ 0 = 0 ∧ ao = ((isStp ax
 ay bx by' cx cy dx dy al ao bo ct).2).1 ∧ True) ∧ True ∧ (4 = 4 ∧ 0 = 0 ∧ bo = (((isStp ax ay bx by' cx cy dx dy al ao bo ct).2).2).1 ∧ True) ∧ True ∧ (3 = 3 ∧ 0 = 0 ∧ Go.IntKind.wrap .i64 (ct + (1 : Int)) = (((isStp ax ay bx by' cx cy dx dy al ao bo ct).2).2).2 ∧ True) ∧ True)))) ∧ ((!al) = false → decide (Go.IntKind.wrap .i64 (ct + (1 : Int)) < (2 : Int))
= (isStp ax ay bx by' cx cy dx dy al ao bo ct).1 ∧ True ∧ (4 = 4 ∧ 0 = 0 ∧ ao = ((isStp ax ay bx by' cx cy dx dy al ao bo ct).2).1 ∧ True) ∧ True ∧ (4 =
4 ∧ 0 = 0 ∧ bo = (((isStp ax ay bx by' cx cy dx dy al ao bo ct).2).2).1 ∧ True) ∧ True ∧ (3 = 3 ∧ 0 = 0 ∧ Go.IntKind.wrap .i64 (ct + (1 : Int)) = Prod.snd
(((isStp ax ay bx by' cx cy dx dy al ao bo ct).2).2) ∧ True) ∧ True)) ∧ (decide (Isec (wh ax) (wh ay) (wh bx) (wh by')
(wh cx) (wh cy) (wh dx) (wh dy)) = false → decide (ct < (2 : Int)) = (isStp ax ay bx by' cx cy dx dy al ao bo ct).1 ∧ True ∧ (4 = 4 ∧ 0 = 0 ∧ ao = ((isStp ax ay bx by' cx cy dx dy al ao bo ct).2).1 ∧ True) ∧ True ∧ (4 = 4 ∧ 0 = 0 ∧ bo = (((isStp ax ay bx by' cx
 cy dx dy al ao bo ct).2).2).1 ∧ True) ∧ True ∧ (3 = 3 ∧ 0 = 0 ∧ ct = (((isStp ax ay bx by' cx cy dx dy al ao bo ct).2).2).2 ∧ True) ∧ True)) := by kernel_rfl
theorem isC : ConOk Tryz.prog 209 (conR isCC) := by
 refine con_of_vc gCP Tryz.func209 rfl (by kernel_rfl) fun args => ?_
 unfold isCC
 split
 · rename_i cx cy dx dy i p a x y z
   intro o0
   show RdM.All _ (match bx4 o0.c with | some (ax, ay, bx, by') => _ | none => _) _
   split
   · rename_i ax ay bx by' hm0
     intro o1
     show RdM.All _ (match bxB o1.c with | some al => _ | none => _) _
     split
     · rename_i al hm1
       intro o2
       show RdM.All _ (match rwOk o2 4 0 with | true => _ | false => _) _
       split
       · rename_i hrw2
         show RdM.All _ (match bxB o2.c with | some ao => _ | none => _) _
         split
         · rename_i ao hm2
           intro o3
           show RdM.All _ (match rwOk o3 4 0 with | true => _ | false => _) _
           split
           · rename_i hrw3
             show RdM.All _ (match bxB o3.c with | some bo => _ | none => _) _
             split
             · rename_i bo hm3
               intro o4
               show RdM.All _ (match rwOk o4 3 0 with | true => _ | false => _) _
               split
               · rename_i hrw4
                 show RdM.All _ (match bxI o4.c with | some ct => _ | none => _) _
                 split
                 · rename_i ct hm4
                   intro ho
                   replace ho : W8 ax ay bx by' cx cy dx dy ∧ 0 ≤ ct ∧ ct ≤ 1000000 := ho
                   refine ⟨?_, _, _, (vc_isC ax ay bx by' cx cy dx dy i al ao bo ct).mpr ?_⟩
                   · refine okFlag_mk rfl ⟨?_, ⟨trivial, bx4_spec hm0, ⟨trivial, bxB_spec hm1, ⟨trivial, obR_rw hrw2 (bxB_spec hm2), ⟨trivial, obR_rw hrw3 (bxB_spec hm3), ⟨trivial, obR_rw hrw4 (bxI_spec hm4), trivial⟩⟩⟩⟩⟩⟩
                     simp [eqvRL, eqvR, kEq_self, fkEq_self, sgSig, fsts, nth, sameN_self]
                   · obtain ⟨⟨⟨h1, h2, h3, h4⟩, h5, h6, h7, h8⟩, hc0, hc1⟩ := ho
                     have k0 := p8_w h1 h2 h3 h4 h5 h6 h7 h8
                     have k1 := p8_w h1 h2 h3 h4 h5 h6 h5 h6
                     have k2 := p8_w h1 h2 h3 h4 h7 h8 h7 h8
                     have hw : IntKind.i64.wrap (ct + 1) = ct + 1 := wrap64 (by omega) (by omega)
                     have q1 : (fEq .f64 ax cx && (fEq .f64 ay cy && true)) = decide (wh ax = wh cx ∧ wh ay = wh cy) := by rw [feq_I h1.1 h5.1, feq_I h2.1 h6.1, Bool.and_true, Bool.decide_and]
                     have q2 : (fEq .f64 ax dx && (fEq .f64 ay dy && true)) = decide (wh ax = wh dx ∧ wh ay = wh dy) := by rw [feq_I h1.1 h7.1, feq_I h2.1 h8.1, Bool.and_true, Bool.decide_and]
                     have q3 : (fEq .f64 bx cx && (fEq .f64 by' cy && true)) = decide (wh bx = wh cx ∧ wh by' = wh cy) := by rw [feq_I h3.1 h5.1, feq_I h4.1 h6.1, Bool.and_true, Bool.decide_and]
                     have q4 : (fEq .f64 bx dx && (fEq .f64 by' dy && true)) = decide (wh bx = wh dx ∧ wh by' = wh dy) := by rw [feq_I h3.1 h7.1, feq_I h4.1 h8.1, Bool.and_true, Bool.decide_and]
                     have e0 : decide (Isec (wh ax) (wh ay) (wh bx) (wh by') (wh cx) (wh cy) (wh dx) (wh dy)) = isW ax ay bx by' cx cy dx dy := rfl
                     unfold isStp clW eqW
                     simp only [e0, q1, q2, q3, q4, k0, k1, k2, hw, true_and, and_true]
                     clear e0 q1 q2 q3 q4 k0 k1 k2 hw h1 h2 h3 h4 h5 h6 h7 h8
                     generalize isW ax ay bx by' cx cy dx dy = u
                     generalize decide (xp (wh cx - wh ax) (wh cy - wh ay) (wh bx - wh ax) (wh by' - wh ay) = 0) = v
                     generalize decide (xp (wh dx - wh ax) (wh dy - wh ay) (wh bx - wh ax) (wh by' - wh ay) = 0) = w
                     generalize decide (wh ax = wh cx ∧ wh ay = wh cy) = q1
                     generalize decide (wh ax = wh dx ∧ wh ay = wh dy) = q2
                     generalize decide (wh bx = wh cx ∧ wh by' = wh cy) = q3
                     generalize decide (wh bx = wh dx ∧ wh by' = wh dy) = q4
                     unfold stp
                     repeat' (first | (refine And.intro ?_ ?_) | (intro hh; first | cases hh | (simp only [Bool.not_eq_true', Bool.not_eq_false'] at hh; subst hh) | skip))
                     all_goals simp_all
                 · trivial
               · trivial
             · trivial
           · trivial
         · trivial
       · trivial
     · trivial
   · trivial
 · trivial
end Go.Proofs.Tryz.Sx
