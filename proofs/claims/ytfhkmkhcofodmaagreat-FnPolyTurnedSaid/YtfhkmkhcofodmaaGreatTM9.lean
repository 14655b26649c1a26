/- Parts of a proof, in order: what each says stands at its head. No conditions. -/
import Derived.ProofKit
import Derived.Lib.SmallJoins
import Derived.Deep.Slices
import Derived.Test.YtfhkmkhcofodmaaGreatTM8
import Derived.Test.YtfhkmkhcofodmaaGreatTM3
import Derived.Test.YtfhkmkhcofodmaaGreatTM4
namespace Go.Proofs.Tryz.Sx
open Go Go.Sx Go.Proofs Go.Fl Go.Geo
set_option maxRecDepth 100000
set_option maxHeartbeats 4000000
noncomputable def GTU0 : Ctx := ⟨⟨tys, FL⟩, [(45, conR zf2_0C), (46, conR isPo0C), (19, conR isGeoC), (47, conR turnedC), (48, conR pSh0C), (49, conR polyPtC), (39, conR asPt0C), (50, pureCon polyAwF)]⟩
theorem gTU0 : CtxOk Tryz.prog GTU0 := ⟨⟨tysOk, flOk⟩, GamOk.cons zf2_0 (GamOk.cons isPo0 (GamOk.cons isGeo (GamOk.cons turned (GamOk.cons pSh0 (GamOk.cons polyPt (GamOk.cons asPt0 (GamOk.cons (.pure polyAw) GamOk.nil))))))), by kernel_rfl⟩
noncomputable def lawTu0C : List SV → RdM
 | [.agg [.slcc n len, .slcc h 0], .int .u8 byI, v, .agg [.int .i64 x, .int .i64 y]] => .read n fun o0 => (match intsFrom .i64 o0.c with
   | some (m0, g) => .read h fun o1 => (match hol0 o1.c with
   | some _ => (match v.toB with
   | some bk => .ret ⟨[.agg [.slcc 0 len, .slcc 1 0], .int .u8 byI, .bool bk, .agg [.int .i64 x, .int .i64 y]], [(0, ⟨false, 28, .ints .i64 m0 g, 0⟩), (1, ⟨false, 26, .cells [], 0⟩)], .tt, [], [], some (m0 = 2 * len ∧ 0 ≤ byI ∧ byI ≤ 255)⟩
   | none => .fail)
   | none => .fail)
   | none => .fail)
 | _ => .fail
theorem vc_lawTu0 (len : Nat) (byI : Int) (bk : Bool) (x y : Int) (_ : Unit)  (g : Nat → Int) : runA GTU0 2 [] [] (codeOf Tryz.f8) (init Tryz.f8.ntmps [.agg [.slcc 0 len, .slcc 1 0], .int .u8 byI, .bool bk, .agg [.int .i64 x, .int .i64 y]] [(0, ⟨false, 28, .ints .i64 (2 * len) g, 0⟩), (1, ⟨false, 26, .cells [], 0⟩)] 2) (endK GTU0.E.T Tryz.f8.results.toList fun S v => postP 2 ⟨[.agg [.slcc 0 len, .slcc 1 0], .int .u8 byI, .bool bk, .agg [.int .i64 x, .int .i64 y]], [(0, ⟨false, 28, .ints .i64 (2 * len) g, 0⟩), (1, ⟨false, 26, .cells [], 0⟩)], .tt, [], [], some (2 * len = 2 * len ∧ 0 ≤ byI ∧ byI ≤ 255)⟩ S v) = (
(2 * len = 2 * len ∧ True) ∧ ((!(fitB len && true)) = true → True ∧ True) ∧ ((!(fitB len && true)) = false → ((!isPg (40 : Int) len g) = true → (2 * len = 2 * len ∧
 True) ∧ (!isPg (40 : Int) len g) = true ∧ true = true ∧ True ∧ True) ∧ ((!isPg (40 : Int) len g) = false → ((!geoAll (List.length [x, y]) fun (i : Nat) => List.getD [x, y] i (0 : Int)) = true →
(2 * len = 2 * len ∧ True) ∧ (!isPg (40 : Int) len g) = false ∧ (List.length [x, y] = 2 ∧ 1 ≤ 1000000) ∧ (!geoAll (List.length [x, y]) fun (i : Nat) => List.getD [x, y] i (0
: Int)) = true ∧ true = true ∧ True ∧ True) ∧ ((!geoAll (List.length [x, y]) fun (i : Nat) => List.getD [x, y] i (0 : Int)) = false → (decide ((↑len : Int) < 3) = true → (2 * len = 2 * len ∧ True) ∧
(!isPg (40 : Int) len g) = false ∧ (List.length [x, y] = 2 ∧ 1 ≤ 1000000) ∧ (!geoAll (List.length [x, y]) fun (i : Nat) => List.getD [x, y] i (0 : Int)) = false ∧ decide ((↑len : Int) < (3 :
 Int)) = true ∧ true = true ∧ True ∧ True) ∧ (decide ((↑len : Int) < 3) = false → (2 * len = 2 * len ∧ True) ∧ (!isPg (40 : Int) len g) = false ∧ (List.length [x, y] = 2 ∧ 1 ≤ 1000000)
∧ (!geoAll (List.length [x, y]) fun (i : Nat) => List.getD [x, y] i (0 : Int)) = false ∧ decide ((↑len : Int) < 3) = false ∧ (((0 : Int) ≤ 0 ∧ 0 < (↑len : Int)) ∧ 1 ≤ 2 * len) ∧ 2 ≤ 2 * len ∧ (((0 : Int) ≤ Go.IntKind.wrap .i64 ((↑len : Int) - 1) ∧ Go.IntKind.wrap .i64 ((↑len : Int) - 1) < (↑len : Int)) ∧ 1 ≤ 2 * len) ∧ 0 + Int.toNat (Go.IntKind.wrap .i64 ((↑len : Int) - 1)) *
2 + 2 ≤ 2 * len ∧ true = true ∧ ((g 0 == g (0 + Int.toNat (Go.IntKind.wrap .i64 ((↑len : Int) - 1)) * 2) && (g 1 == g (0 + Int.toNat (Go.IntKind.wrap .i64 ((↑len : Int) - (1 :
 Int))) * 2 + 1) && true)) = true → True ∧ True) ∧ ((g 0 == g (0 + Int.toNat (Go.IntKind.wrap .i64 ((↑len : Int) - 1)) * 2) && (g 1 == g (0 + Int.toNat (Go.IntKind.wrap .i64 ((↑len : Int)
- (1 : Int))) * 2 + 1) && true)) = false → (↑len : Int) ≠ 0 ∧ (2 * len = 2 * len ∧ len ≤ 1000000 ∧ (0 : Int) ≤ Int.tmod (Go.IntKind.wrap .i64 byI) (↑len : Int) ∧ Int.tmod (Go.IntKind.wrap .i64 byI)
(↑len : Int) ≤ 1000000) ∧ true = true ∧ (2 * len = 2 * len ∧ len ≤ 1000000) ∧ True ∧ (2 * len = 2 * len ∧ List.length [x, y] = 2 ∧ PO g len ∧ small (List.getD
[x, y] 0 (0 : Int)) ∧ small (List.getD [x, y] 1 (0 : Int))) ∧ true = true ∧ (2 * len = 2 * len ∧ len ≤ 1000000) ∧ True ∧ (2 * len = 2 * len ∧ List.length [x, y] = 2 ∧
 PO (tG g len (Int.toNat (Int.tmod (Go.IntKind.wrap .i64 byI) (↑len : Int))) bk) len ∧ small (List.getD [x, y] 0 (0 : Int)) ∧ small (List.getD [x, y] 1 (0 : Int)))
∧ true = true ∧ ((vPt g len (List.getD [x, y] 0 (0 : Int)) (List.getD [x, y] 1 (0 : Int)) == vPt (tG g len (Int.toNat (Int.tmod (Go.IntKind.wrap .i64 byI) (↑len : Int))) bk) len
(List.getD [x, y] 0 (0 : Int)) (List.getD [x, y] 1 (0 : Int))) = true → ((vPt g len (List.getD [x, y] 0 (0 : Int)) (List.getD [x, y] 1 (0 : Int)) == vPt (tG g len
(Int.toNat (Int.tmod (Go.IntKind.wrap .i64 byI) (↑len : Int))) bk) len (List.getD [x, y] 0 (0 : Int)) (List.getD [x, y] 1 (0 : Int))) = true → True ∧ True) ∧ ((vPt g len (List.getD [x, y] 0 (0 : Int))
(List.getD [x, y] 1 (0 : Int)) == vPt (tG g len (Int.toNat (Int.tmod (Go.IntKind.wrap .i64 byI) (↑len : Int))) bk) len (List.getD [x, y] 0 (0 : Int)) (List.getD [x, y] 1 (0 : Int))) = false
→ False ∧ True)) ∧ ((vPt g len (List.getD [x, y] 0 (0 : Int)) (List.getD [x, y] 1 (0 : Int)) == vPt (tG g len (Int.toNat (Int.tmod (Go.IntKind.wrap .i64 byI) (↑len : Int))) bk) len
(List.getD [x, y] 0 (0 : Int)) (List.getD [x, y] 1 (0 : Int))) = false → False ∧ True))))))) := by kernel_rfl
theorem lawTu0 : ConOk Tryz.prog 8 (conR lawTu0C) := by
 refine con_of_vc gTU0 Tryz.func8 rfl (by kernel_rfl) fun args => ?_
 unfold lawTu0C
 split
 · rename_i n len h byI v x y
   intro o0
   show RdM.All _ (match intsFrom .i64 o0.c with | some (m, g) => _ | none => _) _
   split
   · rename_i m0 g hm0
     intro o1
     show RdM.All _ (match hol0 o1.c with | some u => _ | none => _) _
     split
     · rename_i u hm1
       show RdM.All _ (match v.toB with | some b => _ | none => _) _
       split
       · rename_i bk hbk
         intro ho
         replace ho : m0 = 2 * len ∧ 0 ≤ byI ∧ byI ≤ 255 := ho
         obtain ⟨hsz0, ho⟩ := ho
         subst hsz0
         refine ⟨?_, _, _, (vc_lawTu0 len byI bk x y u g).mpr ?_⟩
         · refine okFlag_mk rfl ⟨?_, ⟨trivial, (contR_ints hm0).1, ⟨trivial, hol0_spec hm1, trivial⟩⟩⟩
           simp [eqvRL, eqvR, kEq_self, sgSig, fsts, nth, sameN_self, toB_eqvR hbk]
         · obtain ⟨hb0, hb1⟩ := ho
           obtain ⟨b, rfl⟩ : ∃ b : Nat, byI = b := ⟨byI.toNat, by omega⟩
           have hw : IntKind.i64.wrap (b : Int) = b := wrap64 (by omega) (by omega)
           have hm : 0 < len → Int.tmod (b : Int) (len : Int) = ((b % len : Nat) : Int) := fun _ => (Int.ofNat_tmod b len).symm
           simp only [true_and, and_true, eq_self, implies_true, hw, imp_self]
           intro _ f1
           have f1' := f1
           simp only [isPg, Bool.not_eq_false', Bool.and_eq_true, decide_eq_true_eq] at f1'
           obtain ⟨r0, r1⟩ := f1'
           have hg := of_decide_eq_true r1
           have d0 : [x, y].getD 0 0 = x := rfl
           have d1 : [x, y].getD 1 0 = y := rfl
           simp only [d0, d1]
           refine ⟨fun p1 => ⟨f1, ⟨rfl, by omega⟩, p1⟩, fun p1 => ⟨fun p2 => ⟨f1, ⟨rfl, by omega⟩, p1, p2⟩, fun p2 => ?_⟩⟩
           have hl3 : 3 ≤ len := by have := of_decide_eq_false p2; omega
           have p1' := p1
           rw [Bool.not_eq_false'] at p1'
           have hxy := of_decide_eq_true p1'
           have sx : small x := hxy 0 (by show 0 < 2; omega)
           have sy : small y := hxy 1 (by show 1 < 2; omega)
           have hwl : IntKind.i64.wrap ((len : Int) - 1) = ((len - 1 : Nat) : Int) := by rw [wrap64 (by omega) (by omega)]; omega
           have hp : PO g len := ⟨by omega, hg⟩
           have hbl : b % len < len := Nat.mod_lt _ (by omega)
           simp only [hwl, hm (by omega), Int.toNat_natCast, vPt_turn bk hp hl3 sx sy]
           refine ⟨f1, ⟨rfl, by omega⟩, p1, p2, ⟨⟨by omega, by omega⟩, by omega⟩, by omega, ⟨⟨by omega, by omega⟩, by omega⟩, by omega, fun _ => ⟨by omega, ⟨by omega, by omega, by omega⟩, by omega, ⟨rfl, hp, sx, sy⟩, by omega, ⟨rfl, hp.turn hl3, sx, sy⟩, ?_⟩⟩
           simp
       · trivial
     · trivial
   · trivial
 · trivial
noncomputable def GTU1 : Ctx := ⟨⟨tys, FL⟩, [(45, conR zf2_1C), (46, conR isPo1C), (19, conR isGeoC), (47, conR turnedC), (48, conR pSh1C), (49, conR polyPtC), (39, conR asPt1C), (50, pureCon polyAwF)]⟩
theorem gTU1 : CtxOk Tryz.prog GTU1 := ⟨⟨tysOk, flOk⟩, GamOk.cons zf2_1 (GamOk.cons isPo1 (GamOk.cons isGeo (GamOk.cons turned (GamOk.cons pSh1 (GamOk.cons polyPt (GamOk.cons asPt1 (GamOk.cons (.pure polyAw) GamOk.nil))))))), by kernel_rfl⟩
noncomputable def lawTu1C : List SV → RdM
 | [.agg [.slcc n len, .slcc h 1], .int .u8 byI, v, .agg [.int .i64 x, .int .i64 y]] => .read n fun o0 => (match intsFrom .i64 o0.c with
   | some (m0, g) => .read h fun o1 => (match hol1 o1.c with
   | some (q0, l0) => .read q0 fun o2 => (match intsFrom .i64 o2.c with
   | some (m2, g0) => (match v.toB with
   | some bk => .ret ⟨[.agg [.slcc 0 len, .slcc 1 1], .int .u8 byI, .bool bk, .agg [.int .i64 x, .int .i64 y]], [(0, ⟨false, 28, .ints .i64 m0 g, 0⟩), (1, ⟨false, 26, .cells [.slcc 2 l0], 0⟩), (2, ⟨false, 28, .ints .i64 m2 g0, 0⟩)], .tt, [], [], some (m0 = 2 * len ∧ m2 = 2 * l0 ∧ 0 ≤ byI ∧ byI ≤ 255)⟩
   | none => .fail)
   | none => .fail)
   | none => .fail)
   | none => .fail)
 | _ => .fail
theorem vc_lawTu1 (len : Nat) (byI : Int) (bk : Bool) (x y : Int) (l0 : Nat) (_ : Nm)  (g : Nat → Int) (g0 : Nat → Int) : runA GTU1 3 [] [] (codeOf Tryz.f8) (init Tryz.f8.ntmps [.agg [.slcc 0 len, .slcc 1 1], .int .u8 byI, .bool bk, .agg [.int .i64 x, .int .i64 y]] [(0, ⟨false, 28, .ints .i64 (2 * len) g, 0⟩), (1, ⟨false, 26, .cells [.slcc 2 l0], 0⟩), (2, ⟨false, 28, .ints .i64 (2 * l0) g0, 0⟩)] 3) (endK GTU1.E.T Tryz.f8.results.toList fun S v => postP 3 ⟨[.agg [.slcc 0 len, .slcc 1 1], .int .u8 byI, .bool bk, .agg [.int .i64 x, .int .i64 y]], [(0, ⟨false, 28, .ints .i64 (2 * len) g, 0⟩), (1, ⟨false, 26, .cells [.slcc 2 l0], 0⟩), (2, ⟨false, 28, .ints .i64 (2 * l0) g0, 0⟩)], .tt, [], [], some (2 * len = 2 * len ∧ 2 * l0 = 2 * l0 ∧ 0 ≤ byI ∧ byI ≤ 255)⟩ S v) = (
(2 * len = 2 * len ∧ 2 * l0 = 2 * l0 ∧ True) ∧ ((!(fitB len && (true && fitB l0))) = true → True ∧ True) ∧ ((!(fitB len && (true && fitB l0))) =
 false → ((!(isPg (40 : Int) len g && isPg (20 : Int) l0 g0)) = true → (2 * len = 2 * len ∧ 2 * l0 = 2 * l0 ∧ True) ∧ (!(isPg (40 : Int) len g &&
 isPg (20 : Int) l0 g0)) = true ∧ true = true ∧ True ∧ True) ∧ ((!(isPg (40 : Int) len g && isPg (20 : Int) l0 g0)) = false → ((!geoAll (List.length [x, y]) fun (i : Nat) =>
 List.getD [x, y] i (0 : Int)) = true → (2 * len = 2 * len ∧ 2 * l0 = 2 * l0 ∧ True) ∧ (!(isPg (40 : Int) len g && isPg (20 : Int) l0 g0)) = false ∧ (List.length [x, y] = 2 ∧
1 ≤ 1000000) ∧ (!geoAll (List.length [x, y]) fun (i : Nat) => List.getD [x, y] i (0 : Int)) = true ∧ true = true ∧ True ∧ True) ∧ ((!geoAll (List.length [x, y]) fun (i : Nat) => List.getD [x, y] i
(0 : Int)) = false → (decide ((↑len : Int) < 3) = true → (2 * len = 2 * len ∧ 2 * l0 = 2 * l0 ∧ True) ∧ (!(isPg (40 : Int) len g && isPg (20 : Int) l0 g0)) = false ∧
(List.length [x, y] = 2 ∧ 1 ≤ 1000000) ∧ (!geoAll (List.length [x, y]) fun (i : Nat) => List.getD [x, y] i (0 : Int)) = false ∧ decide ((↑len : Int) < 3) = true ∧ true = true ∧ True ∧ True) ∧ (decide
((↑len : Int) < 3) = false → (2 * len = 2 * len ∧ 2 * l0 = 2 * l0 ∧ True) ∧ (!(isPg (40 : Int) len g && isPg (20 : Int) l0 g0)) = false ∧ (List.length [x, y] = 2 ∧ 1 ≤ 1000000) ∧ (!geoAll (List.length [x, y]) fun (i : Nat) => List.getD [x, y] i (0 : Int)) = false ∧ decide ((↑len : Int) < 3) = false ∧ (((0 : Int) ≤ 0 ∧ 0 < (↑len : Int)) ∧ 1 ≤ 2 * len) ∧ 2 ≤ 2 * len ∧ (((0 : Int) ≤ Go.IntKind.wrap .i64 ((↑len : Int) - 1) ∧ Go.IntKind.wrap .i64 ((↑len : Int) - 1) < (↑len : Int)) ∧ 1 ≤ 2 * len) ∧ 0 + Int.toNat (Go.IntKind.wrap .i64
((↑len : Int) - 1)) * 2 + 2 ≤ 2 * len ∧ true = true ∧ ((g 0 == g (0 + Int.toNat (Go.IntKind.wrap .i64 ((↑len : Int) - 1)) * 2) && (g 1 == g (0 + Int.toNat
(Go.IntKind.wrap .i64 ((↑len : Int) - 1)) * 2 + 1) && true)) = true → True ∧ True) ∧ ((g 0 == g (0 + Int.toNat (Go.IntKind.wrap .i64 ((↑len : Int) - 1)) * 2) && (g 1 == g (0 +
 Int.toNat (Go.IntKind.wrap .i64 ((↑len : Int) - 1)) * 2 + 1) && true)) = false → (↑len : Int) ≠ 0 ∧ (2 * len = 2 * len ∧ len ≤ 1000000 ∧ (0 : Int) ≤ Int.tmod (Go.IntKind.wrap .i64 byI) (↑len :
 Int) ∧ Int.tmod (Go.IntKind.wrap .i64 byI) (↑len : Int) ≤ 1000000) ∧ true = true ∧ (2 * len = 2 * len ∧ 2 * l0 = 2 * l0 ∧ len ≤ 1000000 ∧ l0 ≤ 1000000) ∧ True ∧ (2 * len = 2 *
 len ∧ 2 * l0 = 2 * l0 ∧ List.length [x, y] = 2 ∧ PO g len ∧ PO g0 l0 ∧ small (List.getD [x, y] 0 (0 : Int)) ∧ small (List.getD [x, y] 1 (0
: Int))) ∧ true = true ∧ (2 * len = 2 * len ∧ 2 * l0 = 2 * l0 ∧ len ≤ 1000000 ∧ l0 ≤ 1000000) ∧ True ∧ (2 * len = 2 * len ∧ 2 * l0 = 2 * l0 ∧ List.length [x, y] = 2 ∧ PO (tG g len (Int.toNat (Int.tmod (Go.IntKind.wrap .i64 byI) (↑len : Int))) bk) len ∧ PO g0 l0 ∧ small (List.getD [x, y] 0 (0 : Int)) ∧ small
(List.getD [x, y] 1 (0 : Int))) ∧ true = true ∧ (((vPt g len (List.getD [x, y] 0 (0 : Int)) (List.getD [x, y] 1 (0 : Int)) && !vPf g0 l0 (List.getD [x, y] 0 (0 : Int)) (List.getD [x,
 y] 1 (0 : Int))) == (vPt (tG g len (Int.toNat (Int.tmod (Go.IntKind.wrap .i64 byI) (↑len : Int))) bk) len (List.getD [x, y] 0 (0 : Int)) (List.getD [x, y] 1 (0 : Int)) &&
!vPf g0 l0 (List.getD [x, y] 0 (0 : Int)) (List.getD [x, y] 1 (0 : Int)))) = true → (((vPt g len (List.getD [x, y] 0 (0 : Int)) (List.getD [x, y] 1 (0 : Int)) &&
!vPf g0 l0 (List.getD [x, y] 0 (0 : Int)) (List.getD [x, y] 1 (0 : Int))) == (vPt (tG g len (Int.toNat (Int.tmod (Go.IntKind.wrap .i64 byI) (↑len : Int))) bk) len (List.getD [x, y]
0 (0 : Int)) (List.getD [x, y] 1 (0 : Int)) && !vPf g0 l0 (List.getD [x, y] 0 (0 : Int)) (List.getD [x, y] 1 (0 : Int)))) = true → True ∧ True) ∧ (((vPt g len (List.getD [x, y] 0 (0 : Int)) (List.getD [x, y] 1 (0 : Int)) && !vPf g0 l0 (List.getD [x, y] 0 (0 : Int)) (List.getD [x, y] 1 (0 : Int))) == (vPt (tG g len (Int.toNat (Int.tmod
(Go.IntKind.wrap .i64 byI) (↑len : Int))) bk) len (List.getD [x, y] 0 (0 : Int)) (List.getD [x, y] 1 (0 : Int)) && !vPf g0 l0 (List.getD [x, y] 0 (0 : Int)) (List.getD [x, y] 1 (0 : Int)))) = false →
 False ∧ True)) ∧ (((vPt g len (List.getD [x, y] 0 (0 : Int)) (List.getD [x, y] 1 (0 : Int)) && !vPf g0 l0 (List.getD [x, y] 0 (0 : Int)) (List.getD [x, y] 1 (0 : Int))) ==
(vPt (tG g len (Int.toNat (Int.tmod (Go.IntKind.wrap .i64 byI) (↑len : Int))) bk) len (List.getD [x, y] 0 (0 : Int)) (List.getD [x, y] 1 (0 : Int)) && !vPf g0 l0 (List.getD [x, y]
0 (0 : Int)) (List.getD [x, y] 1 (0 : Int)))) = false → False ∧ True))))))) := by kernel_rfl
theorem lawTu1 : ConOk Tryz.prog 8 (conR lawTu1C) := by
 refine con_of_vc gTU1 Tryz.func8 rfl (by kernel_rfl) fun args => ?_
 unfold lawTu1C
 split
 · rename_i n len h byI v x y
   intro o0
   show RdM.All _ (match intsFrom .i64 o0.c with | some (m, g) => _ | none => _) _
   split
   · rename_i m0 g hm0
     intro o1
     show RdM.All _ (match hol1 o1.c with | some (q0, l0) => _ | none => _) _
     split
     · rename_i q0 l0 hm1
       intro o2
       show RdM.All _ (match intsFrom .i64 o2.c with | some (m, g) => _ | none => _) _
       split
       · rename_i m2 g0 hm2
         show RdM.All _ (match v.toB with | some b => _ | none => _) _
         split
         · rename_i bk hbk
           intro ho
           replace ho : m0 = 2 * len ∧ m2 = 2 * l0 ∧ 0 ≤ byI ∧ byI ≤ 255 := ho
           obtain ⟨hsz0, hsz2, ho⟩ := ho
           subst hsz0
           subst hsz2
           refine ⟨?_, _, _, (vc_lawTu1 len byI bk x y l0 q0 g g0).mpr ?_⟩
           · refine okFlag_mk rfl ⟨?_, ⟨trivial, (contR_ints hm0).1, ⟨trivial, hol1_spec hm1 (by simp [sgSig, fsts, nth, sameN_self]), ⟨trivial, (contR_ints hm2).1, trivial⟩⟩⟩⟩
             simp [eqvRL, eqvR, kEq_self, sgSig, fsts, nth, sameN_self, toB_eqvR hbk]
           · obtain ⟨hb0, hb1⟩ := ho
             obtain ⟨b, rfl⟩ : ∃ b : Nat, byI = b := ⟨byI.toNat, by omega⟩
             have hw : IntKind.i64.wrap (b : Int) = b := wrap64 (by omega) (by omega)
             have hm : 0 < len → Int.tmod (b : Int) (len : Int) = ((b % len : Nat) : Int) := fun _ => (Int.ofNat_tmod b len).symm
             simp only [true_and, and_true, eq_self, implies_true, hw, imp_self]
             intro _ f1
             have f1' := f1
             simp only [isPg, Bool.not_eq_false', Bool.and_eq_true, decide_eq_true_eq] at f1'
             obtain ⟨⟨r0, r1⟩, ⟨s0, t0⟩⟩ := f1'
             have hg := of_decide_eq_true r1
             have h0 := of_decide_eq_true t0
             have d0 : [x, y].getD 0 0 = x := rfl
             have d1 : [x, y].getD 1 0 = y := rfl
             simp only [d0, d1]
             refine ⟨fun p1 => ⟨f1, ⟨rfl, by omega⟩, p1⟩, fun p1 => ⟨fun p2 => ⟨f1, ⟨rfl, by omega⟩, p1, p2⟩, fun p2 => ?_⟩⟩
             have hl3 : 3 ≤ len := by have := of_decide_eq_false p2; omega
             have p1' := p1
             rw [Bool.not_eq_false'] at p1'
             have hxy := of_decide_eq_true p1'
             have sx : small x := hxy 0 (by show 0 < 2; omega)
             have sy : small y := hxy 1 (by show 1 < 2; omega)
             have hwl : IntKind.i64.wrap ((len : Int) - 1) = ((len - 1 : Nat) : Int) := by rw [wrap64 (by omega) (by omega)]; omega
             have hp : PO g len := ⟨by omega, hg⟩
             have o0 : PO g0 l0 := ⟨by omega, h0⟩
             have hbl : b % len < len := Nat.mod_lt _ (by omega)
             simp only [hwl, hm (by omega), Int.toNat_natCast, vPt_turn bk hp hl3 sx sy]
             refine ⟨f1, ⟨rfl, by omega⟩, p1, p2, ⟨⟨by omega, by omega⟩, by omega⟩, by omega, ⟨⟨by omega, by omega⟩, by omega⟩, by omega, fun _ => ⟨by omega, ⟨by omega, by omega, by omega⟩, by omega, ⟨rfl, hp, o0, sx, sy⟩, by omega, ⟨rfl, hp.turn hl3, o0, sx, sy⟩, ?_⟩⟩
             simp
         · trivial
       · trivial
     · trivial
   · trivial
 · trivial
noncomputable def GTU2 : Ctx := ⟨⟨tys, FL⟩, [(45, conR zf2_2C), (46, conR isPo2C), (19, conR isGeoC), (47, conR turnedC), (48, conR pSh2C), (49, conR polyPtC), (39, conR asPt2C), (50, pureCon polyAwF)]⟩
theorem gTU2 : CtxOk Tryz.prog GTU2 := ⟨⟨tysOk, flOk⟩, GamOk.cons zf2_2 (GamOk.cons isPo2 (GamOk.cons isGeo (GamOk.cons turned (GamOk.cons pSh2 (GamOk.cons polyPt (GamOk.cons asPt2 (GamOk.cons (.pure polyAw) GamOk.nil))))))), by kernel_rfl⟩
noncomputable def lawTu2C : List SV → RdM
 | [.agg [.slcc n len, .slcc h 2], .int .u8 byI, v, .agg [.int .i64 x, .int .i64 y]] => .read n fun o0 => (match intsFrom .i64 o0.c with
   | some (m0, g) => .read h fun o1 => (match hol2 o1.c with
   | some (q0, l0, q1, l1) => .read q0 fun o2 => (match intsFrom .i64 o2.c with
   | some (m2, g0) => .read q1 fun o3 => (match intsFrom .i64 o3.c with
   | some (m3, g1) => (match v.toB with
   | some bk => .ret ⟨[.agg [.slcc 0 len, .slcc 1 2], .int .u8 byI, .bool bk, .agg [.int .i64 x, .int .i64 y]], [(0, ⟨false, 28, .ints .i64 m0 g, 0⟩), (1, ⟨false, 26, .cells [.slcc 2 l0, .slcc 3 l1], 0⟩), (2, ⟨false, 28, .ints .i64 m2 g0, 0⟩), (3, ⟨false, 28, .ints .i64 m3 g1, 0⟩)], .tt, [], [], some (m0 = 2 * len ∧ m2 = 2 * l0 ∧ m3 = 2 * l1 ∧ 0 ≤ byI ∧ byI ≤ 255)⟩
   | none => .fail)
   | none => .fail)
   | none => .fail)
   | none => .fail)
   | none => .fail)
 | _ => .fail
theorem vc_lawTu2 (len : Nat) (byI : Int) (bk : Bool) (x y : Int) (l0 l1 : Nat) (_ _ : Nm)  (g : Nat → Int) (g0 : Nat → Int) (g1 : Nat → Int) : runA GTU2 4 [] [] (codeOf Tryz.f8) (init Tryz.f8.ntmps [.agg [.slcc 0 len, .slcc 1 2], .int .u8 byI, .bool bk, .agg [.int .i64 x, .int .i64 y]] [(0, ⟨false, 28, .ints .i64 (2 * len) g, 0⟩), (1, ⟨false, 26, .cells [.slcc 2 l0, .slcc 3 l1], 0⟩), (2, ⟨false, 28, .ints .i64 (2 * l0) g0, 0⟩), (3, ⟨false, 28, .ints .i64 (2 * l1) g1, 0⟩)] 4) (endK GTU2.E.T Tryz.f8.results.toList fun S v => postP 4 ⟨[.agg [.slcc 0 len, .slcc 1 2], .int .u8 byI, .bool bk, .agg [.int .i64 x, .int .i64 y]], [(0, ⟨false, 28, .ints .i64 (2 * len) g, 0⟩), (1, ⟨false, 26, .cells [.slcc 2 l0, .slcc 3 l1], 0⟩), (2, ⟨false, 28, .ints .i64 (2 * l0) g0, 0⟩), (3, ⟨false, 28, .ints .i64 (2 * l1) g1, 0⟩)], .tt, [], [], some (2 * len = 2 * len ∧ 2 * l0 = 2 * l0 ∧ 2 * l1 = 2 * l1 ∧ 0 ≤ byI ∧ byI ≤ 255)⟩ S v) = (
(2 * len = 2 * len ∧ 2 * l0 = 2 * l0 ∧ 2 * l1 = 2 * l1 ∧ True) ∧ ((!(fitB len && (true && fitB l0 && fitB l1))) = true → True ∧ True) ∧
((!(fitB len && (true && fitB l0 && fitB l1))) = false → ((!(isPg (40 : Int) len g && isPg (20 : Int) l0 g0 && isPg (20 : Int) l1 g1)) = true
→ (2 * len = 2 * len ∧ 2 * l0 = 2 * l0 ∧ 2 * l1 = 2 * l1 ∧ True) ∧ (!(isPg (40 : Int) len g && isPg (20 : Int) l0 g0 && isPg (20 : Int) l1 g1)) =
 true ∧ true = true ∧ True ∧ True) ∧ ((!(isPg (40 : Int) len g && isPg (20 : Int) l0 g0 && isPg (20 : Int) l1 g1)) = false → ((!geoAll (List.length [x, y]) fun (i : Nat) =>
 List.getD [x, y] i (0 : Int)) = true → (2 * len = 2 * len ∧ 2 * l0 = 2 * l0 ∧ 2 * l1 = 2 * l1 ∧ True) ∧ (!(isPg (40 : Int) len g && isPg (20 : Int) l0 g0 &&
 isPg (20 : Int) l1 g1)) = false ∧ (List.length [x, y] = 2 ∧ 1 ≤ 1000000) ∧ (!geoAll (List.length [x, y]) fun (i : Nat) => List.getD [x, y] i (0 : Int)) = true ∧ true = true ∧ True ∧ True) ∧
((!geoAll (List.length [x, y]) fun (i : Nat) => List.getD [x, y] i (0 : Int)) = false → (decide ((↑len : Int) < 3) = true → (2 * len = 2 * len ∧ 2 * l0 = 2 * l0 ∧ 2 * l1 = 2 *
 l1 ∧ True) ∧ (!(isPg (40 : Int) len g && isPg (20 : Int) l0 g0 && isPg (20 : Int) l1 g1)) = false ∧ (List.length [x, y] = 2 ∧ 1 ≤ 1000000) ∧ (!geoAll
(List.length [x, y]) fun (i : Nat) => List.getD [x, y] i (0 : Int)) = false ∧ decide ((↑len : Int) < 3) = true ∧ true = true ∧ True ∧ True) ∧ (decide ((↑len : Int) < 3) = false → (2 * len = 2 * len ∧ 2 * l0 =
2 * l0 ∧ 2 * l1 = 2 * l1 ∧ True) ∧ (!(isPg (40 : Int) len g && isPg (20 : Int) l0 g0 && isPg (20 : Int) l1 g1)) = false ∧ (List.length [x, y] = 2 ∧ 1 ≤
1000000) ∧ (!geoAll (List.length [x, y]) fun (i : Nat) => List.getD [x, y] i (0 : Int)) = false ∧ decide ((↑len : Int) < 3) = false ∧ (((0 : Int) ≤ 0 ∧ 0 < (↑len : Int)) ∧ 1 ≤ 2 * len)
∧ 2 ≤ 2 * len ∧ (((0 : Int) ≤ Go.IntKind.wrap .i64 ((↑len : Int) - 1) ∧ Go.IntKind.wrap .i64 ((↑len : Int) - 1) < (↑len : Int)) ∧ 1 ≤ 2 * len) ∧ 0 + Int.toNat (Go.IntKind.wrap .i64 ((↑len : Int)
- (1 : Int))) * 2 + 2 ≤ 2 * len ∧ true = true ∧ ((g 0 == g (0 + Int.toNat (Go.IntKind.wrap .i64 ((↑len : Int) - 1)) * 2) && (g 1 == g (0 + Int.toNat (Go.IntKind.wrap .i64 ((↑len
: Int) - 1)) * 2 + 1) && true)) = true → True ∧ True) ∧ ((g 0 == g (0 + Int.toNat (Go.IntKind.wrap .i64 ((↑len : Int) - 1)) * 2) && (g 1 == g (0 + Int.toNat (Go.IntKind.wrap .i64
((↑len : Int) - 1)) * 2 + 1) && true)) = false → (↑len : Int) ≠ 0 ∧ (2 * len = 2 * len ∧ len ≤ 1000000 ∧ (0 : Int) ≤ Int.tmod (Go.IntKind.wrap .i64 byI) (↑len : Int) ∧ Int.tmod (Go.IntKind.wrap
.i64 byI) (↑len : Int) ≤ 1000000) ∧ true = true ∧ (2 * len = 2 * len ∧ 2 * l0 = 2 * l0 ∧ 2 * l1 = 2 * l1 ∧ len ≤ 1000000 ∧ l0 ≤ 1000000 ∧ l1 ≤ 1000000) ∧ True ∧ (2 * len = 2 * len ∧ 2 * l0 = 2 * l0 ∧ 2 * l1 = 2 * l1 ∧ List.length [x, y] = 2 ∧ PO g len ∧ PO g0 l0 ∧ PO g1 l1 ∧ small
(List.getD [x, y] 0 (0 : Int)) ∧ small (List.getD [x, y] 1 (0 : Int))) ∧ true = true ∧ (2 * len = 2 * len ∧ 2 * l0 = 2 * l0 ∧ 2 * l1 = 2 * l1 ∧ len ≤ 1000000 ∧
 l0 ≤ 1000000 ∧ l1 ≤ 1000000) ∧ True ∧ (2 * len = 2 * len ∧ 2 * l0 = 2 * l0 ∧ 2 * l1 = 2 * l1 ∧ List.length [x, y] = 2 ∧ PO (tG g len
(Int.toNat (Int.tmod (Go.IntKind.wrap .i64 byI) (↑len : Int))) bk) len ∧ PO g0 l0 ∧ PO g1 l1 ∧ small (List.getD [x, y] 0 (0 : Int)) ∧ small (List.getD [x, y] 1 (0
: Int))) ∧ true = true ∧ (((vPt g len (List.getD [x, y] 0 (0 : Int)) (List.getD [x, y] 1 (0 : Int)) && !vPf g0 l0 (List.getD [x, y] 0 (0 : Int)) (List.getD [x, y] 1 (0 : Int)) &&
!vPf g1 l1 (List.getD [x, y] 0 (0 : Int)) (List.getD [x, y] 1 (0 : Int))) == (vPt (tG g len (Int.toNat (Int.tmod (Go.IntKind.wrap .i64 byI) (↑len : Int))) bk) len (List.getD [x, y]
0 (0 : Int)) (List.getD [x, y] 1 (0 : Int)) && !vPf g0 l0 (List.getD [x, y] 0 (0 : Int)) (List.getD [x, y] 1 (0 : Int)) && !vPf g1 l1 (List.getD [x, y] 0 (0 : Int))
(List.getD [x, y] 1 (0 : Int)))) = true → (((vPt g len (List.getD [x, y] 0 (0 : Int)) (List.getD [x, y] 1 (0 : Int)) && !vPf g0 l0 (List.getD [x, y] 0 (0 : Int)) (List.getD [x, y] 1 (0 : Int)) && !vPf g1 l1 (List.getD [x, y] 0 (0 : Int)) (List.getD [x, y] 1 (0 : Int))) == (vPt (tG g len (Int.toNat (Int.tmod (Go.IntKind.wrap .i64 byI) (↑len : Int))) bk)
 len (List.getD [x, y] 0 (0 : Int)) (List.getD [x, y] 1 (0 : Int)) && !vPf g0 l0 (List.getD [x, y] 0 (0 : Int)) (List.getD [x, y] 1 (0 : Int)) && !vPf g1 l1 (List.getD [x, y] 0 (0 : Int)) (List.getD [x, y] 1 (0 : Int)))) = true → True ∧ True) ∧ (((vPt g len (List.getD [x, y] 0 (0 : Int)) (List.getD [x, y] 1 (0 : Int)) && !vPf g0 l0 (List.getD [x, y] 0
(0 : Int)) (List.getD [x, y] 1 (0 : Int)) && !vPf g1 l1 (List.getD [x, y] 0 (0 : Int)) (List.getD [x, y] 1 (0 : Int))) == (vPt (tG g len (Int.toNat (Int.tmod
(Go.IntKind.wrap .i64 byI) (↑len : Int))) bk) len (List.getD [x, y] 0 (0 : Int)) (List.getD [x, y] 1 (0 : Int)) && !vPf g0 l0 (List.getD [x, y] 0 (0 : Int)) (List.getD [x, y] 1 (0 : Int)) &&
!vPf g1 l1 (List.getD [x, y] 0 (0 : Int)) (List.getD [x, y] 1 (0 : Int)))) = false → False ∧ True)) ∧ (((vPt g len (List.getD [x, y] 0 (0 : Int)) (List.getD [x, y] 1 (0 : Int)) &&
!vPf g0 l0 (List.getD [x, y] 0 (0 : Int)) (List.getD [x, y] 1 (0 : Int)) && !vPf g1 l1 (List.getD [x, y] 0 (0 : Int)) (List.getD [x, y] 1 (0 : Int))) == (vPt
(tG g len (Int.toNat (Int.tmod (Go.IntKind.wrap .i64 byI) (↑len : Int))) bk) len (List.getD [x, y] 0 (0 : Int)) (List.getD [x, y] 1 (0 : Int)) && !vPf g0 l0 (List.getD [x, y] 0 (0 : Int))
(List.getD [x, y] 1 (0 : Int)) && !vPf g1 l1 (List.getD [x, y] 0 (0 : Int)) (List.getD [x, y] 1 (0 : Int)))) = false → False ∧ True))))))) := by kernel_rfl
theorem lawTu2 : ConOk Tryz.prog 8 (conR lawTu2C) := by
 refine con_of_vc gTU2 Tryz.func8 rfl (by kernel_rfl) fun args => ?_
 unfold lawTu2C
 split
 · rename_i n len h byI v x y
   intro o0
   show RdM.All _ (match intsFrom .i64 o0.c with | some (m, g) => _ | none => _) _
   split
   · rename_i m0 g hm0
     intro o1
     show RdM.All _ (match hol2 o1.c with | some (q0, l0, q1, l1) => _ | none => _) _
     split
     · rename_i q0 l0 q1 l1 hm1
       intro o2
       show RdM.All _ (match intsFrom .i64 o2.c with | some (m, g) => _ | none => _) _
       split
       · rename_i m2 g0 hm2
         intro o3
         show RdM.All _ (match intsFrom .i64 o3.c with | some (m, g) => _ | none => _) _
         split
         · rename_i m3 g1 hm3
           show RdM.All _ (match v.toB with | some b => _ | none => _) _
           split
           · rename_i bk hbk
             intro ho
             replace ho : m0 = 2 * len ∧ m2 = 2 * l0 ∧ m3 = 2 * l1 ∧ 0 ≤ byI ∧ byI ≤ 255 := ho
             obtain ⟨hsz0, hsz2, hsz3, ho⟩ := ho
             subst hsz0
             subst hsz2
             subst hsz3
             refine ⟨?_, _, _, (vc_lawTu2 len byI bk x y l0 l1 q0 q1 g g0 g1).mpr ?_⟩
             · refine okFlag_mk rfl ⟨?_, ⟨trivial, (contR_ints hm0).1, ⟨trivial, hol2_spec hm1 (by simp [sgSig, fsts, nth, sameN_self]) (by simp [sgSig, fsts, nth, sameN_self]), ⟨trivial, (contR_ints hm2).1, ⟨trivial, (contR_ints hm3).1, trivial⟩⟩⟩⟩⟩
               simp [eqvRL, eqvR, kEq_self, sgSig, fsts, nth, sameN_self, toB_eqvR hbk]
             · obtain ⟨hb0, hb1⟩ := ho
               obtain ⟨b, rfl⟩ : ∃ b : Nat, byI = b := ⟨byI.toNat, by omega⟩
               have hw : IntKind.i64.wrap (b : Int) = b := wrap64 (by omega) (by omega)
               have hm : 0 < len → Int.tmod (b : Int) (len : Int) = ((b % len : Nat) : Int) := fun _ => (Int.ofNat_tmod b len).symm
               simp only [true_and, and_true, eq_self, implies_true, hw, imp_self]
               intro _ f1
               have f1' := f1
               simp only [isPg, Bool.not_eq_false', Bool.and_eq_true, decide_eq_true_eq] at f1'
               obtain ⟨⟨⟨r0, r1⟩, ⟨s0, t0⟩⟩, ⟨s1, t1⟩⟩ := f1'
               have hg := of_decide_eq_true r1
               have h0 := of_decide_eq_true t0
               have h1 := of_decide_eq_true t1
               have d0 : [x, y].getD 0 0 = x := rfl
               have d1 : [x, y].getD 1 0 = y := rfl
               simp only [d0, d1]
               refine ⟨fun p1 => ⟨f1, ⟨rfl, by omega⟩, p1⟩, fun p1 => ⟨fun p2 => ⟨f1, ⟨rfl, by omega⟩, p1, p2⟩, fun p2 => ?_⟩⟩
               have hl3 : 3 ≤ len := by have := of_decide_eq_false p2; omega
               have p1' := p1
               rw [Bool.not_eq_false'] at p1'
               have hxy := of_decide_eq_true p1'
               have sx : small x := hxy 0 (by show 0 < 2; omega)
               have sy : small y := hxy 1 (by show 1 < 2; omega)
               have hwl : IntKind.i64.wrap ((len : Int) - 1) = ((len - 1 : Nat) : Int) := by rw [wrap64 (by omega) (by omega)]; omega
               have hp : PO g len := ⟨by omega, hg⟩
               have o0 : PO g0 l0 := ⟨by omega, h0⟩
               have o1 : PO g1 l1 := ⟨by omega, h1⟩
               have hbl : b % len < len := Nat.mod_lt _ (by omega)
               simp only [hwl, hm (by omega), Int.toNat_natCast, vPt_turn bk hp hl3 sx sy]
               refine ⟨f1, ⟨rfl, by omega⟩, p1, p2, ⟨⟨by omega, by omega⟩, by omega⟩, by omega, ⟨⟨by omega, by omega⟩, by omega⟩, by omega, fun _ => ⟨by omega, ⟨by omega, by omega, by omega⟩, by omega, ⟨rfl, hp, o0, o1, sx, sy⟩, by omega, ⟨rfl, hp.turn hl3, o0, o1, sx, sy⟩, ?_⟩⟩
               simp
           · trivial
         · trivial
       · trivial
     · trivial
   · trivial
 · trivial
noncomputable def GTU3 : Ctx := ⟨⟨tys, FL⟩, [(45, conR zf2_3C), (46, conR isPo3C), (19, conR isGeoC), (47, conR turnedC), (48, conR pSh3C), (49, conR polyPtC), (39, conR asPt3C), (50, pureCon polyAwF)]⟩
theorem gTU3 : CtxOk Tryz.prog GTU3 := ⟨⟨tysOk, flOk⟩, GamOk.cons zf2_3 (GamOk.cons isPo3 (GamOk.cons isGeo (GamOk.cons turned (GamOk.cons pSh3 (GamOk.cons polyPt (GamOk.cons asPt3 (GamOk.cons (.pure polyAw) GamOk.nil))))))), by kernel_rfl⟩
noncomputable def lawTu3C : List SV → RdM
 | [.agg [.slcc n len, .slcc h 3], .int .u8 byI, v, .agg [.int .i64 x, .int .i64 y]] => .read n fun o0 => (match intsFrom .i64 o0.c with
   | some (m0, g) => .read h fun o1 => (match hol3 o1.c with
   | some (q0, l0, q1, l1, q2, l2) => .read q0 fun o2 => (match intsFrom .i64 o2.c with
   | some (m2, g0) => .read q1 fun o3 => (match intsFrom .i64 o3.c with
   | some (m3, g1) => .read q2 fun o4 => (match intsFrom .i64 o4.c with
   | some (m4, g2) => (match v.toB with
   | some bk => .ret ⟨[.agg [.slcc 0 len, .slcc 1 3], .int .u8 byI, .bool bk, .agg [.int .i64 x, .int .i64 y]], [(0, ⟨false, 28, .ints .i64 m0 g, 0⟩), (1, ⟨false, 26, .cells [.slcc 2 l0, .slcc 3 l1, .slcc 4 l2], 0⟩), (2, ⟨false, 28, .ints .i64 m2 g0, 0⟩), (3, ⟨false, 28, .ints .i64 m3 g1, 0⟩), (4, ⟨false, 28, .ints .i64 m4 g2, 0⟩)], .tt, [], [], some (m0 = 2 * len ∧ m2 = 2 * l0 ∧ m3 = 2 * l1 ∧ m4 = 2 * l2 ∧ 0 ≤ byI ∧ byI ≤ 255)⟩
   | none => .fail)
   | none => .fail)
   | none => .fail)
   | none => .fail)
   | none => .fail)
   | none => .fail)
 | _ => .fail
theorem vc_lawTu3 (len : Nat) (byI : Int) (bk : Bool) (x y : Int) (l0 l1 l2 : Nat) (_ _ _ : Nm)  (g : Nat → Int) (g0 : Nat → Int) (g1 : Nat → Int) (g2 : Nat → Int) : runA GTU3 5 [] [] (codeOf Tryz.f8) (init Tryz.f8.ntmps [.agg [.slcc 0 len, .slcc 1 3], .int .u8 byI, .bool bk, .agg [.int .i64 x, .int .i64 y]] [(0, ⟨false, 28, .ints .i64 (2 * len) g, 0⟩), (1, ⟨false, 26, .cells [.slcc 2 l0, .slcc 3 l1, .slcc 4 l2], 0⟩), (2, ⟨false, 28, .ints .i64 (2 * l0) g0, 0⟩), (3, ⟨false, 28, .ints .i64 (2 * l1) g1, 0⟩), (4, ⟨false, 28, .ints .i64 (2 * l2) g2, 0⟩)] 5) (endK GTU3.E.T Tryz.f8.results.toList fun S v => postP 5 ⟨[.agg [.slcc 0 len, .slcc 1 3], .int .u8 byI, .bool bk, .agg [.int .i64 x, .int .i64 y]], [(0, ⟨false, 28, .ints .i64 (2 * len) g, 0⟩), (1, ⟨false, 26, .cells [.slcc 2 l0, .slcc 3 l1, .slcc 4 l2], 0⟩), (2, ⟨false, 28, .ints .i64 (2 * l0) g0, 0⟩), (3, ⟨false, 28, .ints .i64 (2 * l1) g1, 0⟩), (4, ⟨false, 28, .ints .i64 (2 * l2) g2, 0⟩)], .tt, [], [], some (2 * len = 2 * len ∧ 2 * l0 = 2 * l0 ∧ 2 * l1 = 2 * l1 ∧ 2 * l2 = 2 * l2 ∧ 0 ≤ byI ∧ byI ≤ 255)⟩ S v) = (
(2 * len = 2 * len ∧ 2 * l0 = 2 * l0 ∧ 2 * l1 = 2 * l1 ∧ 2 * l2 = 2 * l2 ∧ True) ∧ ((!(fitB len && (true && fitB l0 && fitB l1 &&
 fitB l2))) = true → True ∧ True) ∧ ((!(fitB len && (true && fitB l0 && fitB l1 && fitB l2))) = false → ((!(isPg (40 : Int) len g &&
 isPg (20 : Int) l0 g0 && isPg (20 : Int) l1 g1 && isPg (20 : Int) l2 g2)) = true → (2 * len = 2 * len ∧ 2 * l0 = 2 * l0 ∧ 2 * l1 = 2 * l1 ∧ 2 * l2 = 2 * l2 ∧ True) ∧ (!(isPg (40 : Int) len g && isPg (20 : Int) l0 g0 && isPg (20 : Int) l1 g1 && isPg (20 : Int) l2 g2)) = true ∧ true = true ∧ True ∧ True) ∧
((!(isPg (40 : Int) len g && isPg (20 : Int) l0 g0 && isPg (20 : Int) l1 g1 && isPg (20 : Int) l2 g2)) = false → ((!geoAll (List.length [x, y]) fun (i : Nat) =>
 List.getD [x, y] i (0 : Int)) = true → (2 * len = 2 * len ∧ 2 * l0 = 2 * l0 ∧ 2 * l1 = 2 * l1 ∧ 2 * l2 = 2 * l2 ∧ True) ∧ (!(isPg (40 : Int) len g &&
 isPg (20 : Int) l0 g0 && isPg (20 : Int) l1 g1 && isPg (20 : Int) l2 g2)) = false ∧ (List.length [x, y] = 2 ∧ 1 ≤ 1000000) ∧ (!geoAll (List.length [x, y])
 fun (i : Nat) => List.getD [x, y] i (0 : Int)) = true ∧ true = true ∧ True ∧ True) ∧ ((!geoAll (List.length [x, y]) fun (i : Nat) => List.getD [x, y] i (0 : Int)) = false → (decide ((↑len : Int) < 3) = true → (2 *
 len = 2 * len ∧ 2 * l0 = 2 * l0 ∧ 2 * l1 = 2 * l1 ∧ 2 * l2 = 2 * l2 ∧ True) ∧ (!(isPg (40 : Int) len g && isPg (20 : Int) l0 g0 && isPg (20
: Int) l1 g1 && isPg (20 : Int) l2 g2)) = false ∧ (List.length [x, y] = 2 ∧ 1 ≤ 1000000) ∧ (!geoAll (List.length [x, y]) fun (i : Nat) => List.getD [x, y] i (0 : Int)) = false ∧ decide
((↑len : Int) < 3) = true ∧ true = true ∧ True ∧ True) ∧ (decide ((↑len : Int) < 3) = false → (2 * len = 2 * len ∧ 2 * l0 = 2 * l0 ∧ 2 * l1 = 2 * l1 ∧ 2 * l2 = 2 * l2 ∧
 True) ∧ (!(isPg (40 : Int) len g && isPg (20 : Int) l0 g0 && isPg (20 : Int) l1 g1 && isPg (20 : Int) l2 g2)) = false ∧ (List.length [x, y] = 2 ∧ 1 ≤ 1000000) ∧ (!geoAll (List.length [x, y]) fun (i : Nat) => List.getD [x, y] i (0 : Int)) = false ∧ decide ((↑len : Int) < 3) = false ∧ (((0 : Int) ≤ 0 ∧ 0 < (↑len : Int)) ∧ 1 ≤ 2 * len) ∧ 2 ≤ 2 * len ∧ (((0 : Int) ≤ Go.IntKind.wrap .i64 ((↑len : Int) - 1) ∧ Go.IntKind.wrap .i64 ((↑len : Int) - 1) < (↑len : Int)) ∧ 1 ≤ 2 * len) ∧ 0 + Int.toNat (Go.IntKind.wrap .i64 ((↑len : Int) - (1 :
 Int))) * 2 + 2 ≤ 2 * len ∧ true = true ∧ ((g 0 == g (0 + Int.toNat (Go.IntKind.wrap .i64 ((↑len : Int) - 1)) * 2) && (g 1 == g (0 + Int.toNat (Go.IntKind.wrap .i64 ((↑len : Int)
- (1 : Int))) * 2 + 1) && true)) = true → True ∧ True) ∧ ((g 0 == g (0 + Int.toNat (Go.IntKind.wrap .i64 ((↑len : Int) - 1)) * 2) && (g 1 == g (0 + Int.toNat (Go.IntKind.wrap .i64 ((↑len
: Int) - 1)) * 2 + 1) && true)) = false → (↑len : Int) ≠ 0 ∧ (2 * len = 2 * len ∧ len ≤ 1000000 ∧ (0 : Int) ≤ Int.tmod (Go.IntKind.wrap .i64 byI) (↑len : Int) ∧ Int.tmod (Go.IntKind.wrap .i64
 byI) (↑len : Int) ≤ 1000000) ∧ true = true ∧ (2 * len = 2 * len ∧ 2 * l0 = 2 * l0 ∧ 2 * l1 = 2 * l1 ∧ 2 * l2 = 2 * l2 ∧ len ≤ 1000000 ∧ l0 ≤ 1000000 ∧ l1 ≤
1000000 ∧ l2 ≤ 1000000) ∧ True ∧ (2 * len = 2 * len ∧ 2 * l0 = 2 * l0 ∧ 2 * l1 = 2 * l1 ∧ 2 * l2 = 2 * l2 ∧ List.length [x, y] = 2 ∧ PO g len ∧
 PO g0 l0 ∧ PO g1 l1 ∧ PO g2 l2 ∧ small (List.getD [x, y] 0 (0 : Int)) ∧ small (List.getD [x, y] 1 (0 : Int))) ∧ true = true ∧ (2 * len =
2 * len ∧ 2 * l0 = 2 * l0 ∧ 2 * l1 = 2 * l1 ∧ 2 * l2 = 2 * l2 ∧ len ≤ 1000000 ∧ l0 ≤ 1000000 ∧ l1 ≤ 1000000 ∧ l2 ≤ 1000000) ∧ True ∧ (2 * len = 2
* len ∧ 2 * l0 = 2 * l0 ∧ 2 * l1 = 2 * l1 ∧ 2 * l2 = 2 * l2 ∧ List.length [x, y] = 2 ∧ PO (tG g len (Int.toNat (Int.tmod (Go.IntKind.wrap .i64 byI) (↑len :
 Int))) bk) len ∧ PO g0 l0 ∧ PO g1 l1 ∧ PO g2 l2 ∧ small (List.getD [x, y] 0 (0 : Int)) ∧ small (List.getD [x, y] 1 (0 : Int))) ∧ true = true ∧
(((vPt g len (List.getD [x, y] 0 (0 : Int)) (List.getD [x, y] 1 (0 : Int)) && !vPf g0 l0 (List.getD [x, y] 0 (0 : Int)) (List.getD [x, y] 1 (0 : Int)) && !vPf g1 l1
(List.getD [x, y] 0 (0 : Int)) (List.getD [x, y] 1 (0 : Int)) && !vPf g2 l2 (List.getD [x, y] 0 (0 : Int)) (List.getD [x, y] 1 (0 : Int))) == (vPt (tG g len
(Int.toNat (Int.tmod (Go.IntKind.wrap .i64 byI) (↑len : Int))) bk) len (List.getD [x, y] 0 (0 : Int)) (List.getD [x, y] 1 (0 : Int)) && !vPf g0 l0 (List.getD [x, y] 0 (0 : Int)) (List.getD [x, y] 1 (0
: Int)) && !vPf g1 l1 (List.getD [x, y] 0 (0 : Int)) (List.getD [x, y] 1 (0 : Int)) && !vPf g2 l2 (List.getD [x, y] 0 (0 : Int)) (List.getD [x, y] 1 (0 : Int)))) = true →
(((vPt g len (List.getD [x, y] 0 (0 : Int)) (List.getD [x, y] 1 (0 : Int)) && !vPf g0 l0 (List.getD [x, y] 0 (0 : Int)) (List.getD [x, y] 1 (0 : Int)) && !vPf g1 l1
(List.getD [x, y] 0 (0 : Int)) (List.getD [x, y] 1 (0 : Int)) && !vPf g2 l2 (List.getD [x, y] 0 (0 : Int)) (List.getD [x, y] 1 (0 : Int))) == (vPt (tG g len
(Int.toNat (Int.tmod (Go.IntKind.wrap .i64 byI) (↑len : Int))) bk) len (List.getD [x, y] 0 (0 : Int)) (List.getD [x, y] 1 (0 : Int)) && !vPf g0 l0 (List.getD [x, y] 0 (0 : Int)) (List.getD [x, y] 1 (0
: Int)) && !vPf g1 l1 (List.getD [x, y] 0 (0 : Int)) (List.getD [x, y] 1 (0 : Int)) && !vPf g2 l2 (List.getD [x, y] 0 (0 : Int)) (List.getD [x, y] 1 (0 : Int)))) = true → True ∧
 True) ∧ (((vPt g len (List.getD [x, y] 0 (0 : Int)) (List.getD [x, y] 1 (0 : Int)) && !vPf g0 l0 (List.getD [x, y] 0 (0 : Int)) (List.getD [x, y] 1 (0 : Int)) &&
!vPf g1 l1 (List.getD [x, y] 0 (0 : Int)) (List.getD [x, y] 1 (0 : Int)) && !vPf g2 l2 (List.getD [x, y] 0 (0 : Int)) (List.getD [x, y] 1 (0 : Int))) == (vPt
(tG g len (Int.toNat (Int.tmod (Go.IntKind.wrap .i64 byI) (↑len : Int))) bk) len (List.getD [x, y] 0 (0 : Int)) (List.getD [x, y] 1 (0 : Int)) && !vPf g0 l0 (List.getD [x, y] 0 (0 : Int))
(List.getD [x, y] 1 (0 : Int)) && !vPf g1 l1 (List.getD [x, y] 0 (0 : Int)) (List.getD [x, y] 1 (0 : Int)) && !vPf g2 l2 (List.getD [x, y] 0 (0 : Int)) (List.getD [x, y] 1 (0
: Int)))) = false → False ∧ True)) ∧ (((vPt g len (List.getD [x, y] 0 (0 : Int)) (List.getD [x, y] 1 (0 : Int)) && !vPf g0 l0 (List.getD [x, y] 0 (0 : Int)) (List.getD [x, y] 1 (0 :
 Int)) && !vPf g1 l1 (List.getD [x, y] 0 (0 : Int)) (List.getD [x, y] 1 (0 : Int)) && !vPf g2 l2 (List.getD [x, y] 0 (0 : Int)) (List.getD [x, y] 1 (0 : Int))) ==
(vPt (tG g len (Int.toNat (Int.tmod (Go.IntKind.wrap .i64 byI) (↑len : Int))) bk) len (List.getD [x, y] 0 (0 : Int)) (List.getD [x, y] 1 (0 : Int)) && !vPf g0 l0 (List.getD [x, y]
0 (0 : Int)) (List.getD [x, y] 1 (0 : Int)) && !vPf g1 l1 (List.getD [x, y] 0 (0 : Int)) (List.getD [x, y] 1 (0 : Int)) && !vPf g2 l2 (List.getD [x, y] 0 (0 : Int))
(List.getD [x, y] 1 (0 : Int)))) = false → False ∧ True))))))) := by kernel_rfl
theorem lawTu3 : ConOk Tryz.prog 8 (conR lawTu3C) := by
 refine con_of_vc gTU3 Tryz.func8 rfl (by kernel_rfl) fun args => ?_
 unfold lawTu3C
 split
 · rename_i n len h byI v x y
   intro o0
   show RdM.All _ (match intsFrom .i64 o0.c with | some (m, g) => _ | none => _) _
   split
   · rename_i m0 g hm0
     intro o1
     show RdM.All _ (match hol3 o1.c with | some (q0, l0, q1, l1, q2, l2) => _ | none => _) _
     split
     · rename_i q0 l0 q1 l1 q2 l2 hm1
       intro o2
       show RdM.All _ (match intsFrom .i64 o2.c with | some (m, g) => _ | none => _) _
       split
       · rename_i m2 g0 hm2
         intro o3
         show RdM.All _ (match intsFrom .i64 o3.c with | some (m, g) => _ | none => _) _
         split
         · rename_i m3 g1 hm3
           intro o4
           show RdM.All _ (match intsFrom .i64 o4.c with | some (m, g) => _ | none => _) _
           split
           · rename_i m4 g2 hm4
             show RdM.All _ (match v.toB with | some b => _ | none => _) _
             split
             · rename_i bk hbk
               intro ho
               replace ho : m0 = 2 * len ∧ m2 = 2 * l0 ∧ m3 = 2 * l1 ∧ m4 = 2 * l2 ∧ 0 ≤ byI ∧ byI ≤ 255 := ho
               obtain ⟨hsz0, hsz2, hsz3, hsz4, ho⟩ := ho
               subst hsz0
               subst hsz2
               subst hsz3
               subst hsz4
               refine ⟨?_, _, _, (vc_lawTu3 len byI bk x y l0 l1 l2 q0 q1 q2 g g0 g1 g2).mpr ?_⟩
               · refine okFlag_mk rfl ⟨?_, ⟨trivial, (contR_ints hm0).1, ⟨trivial, hol3_spec hm1 (by simp [sgSig, fsts, nth, sameN_self]) (by simp [sgSig, fsts, nth, sameN_self]) (by simp [sgSig, fsts, nth, sameN_self]), ⟨trivial, (contR_ints hm2).1, ⟨trivial, (contR_ints hm3).1, ⟨trivial, (contR_ints hm4).1, trivial⟩⟩⟩⟩⟩⟩
                 simp [eqvRL, eqvR, kEq_self, sgSig, fsts, nth, sameN_self, toB_eqvR hbk]
               · obtain ⟨hb0, hb1⟩ := ho
                 obtain ⟨b, rfl⟩ : ∃ b : Nat, byI = b := ⟨byI.toNat, by omega⟩
                 have hw : IntKind.i64.wrap (b : Int) = b := wrap64 (by omega) (by omega)
                 have hm : 0 < len → Int.tmod (b : Int) (len : Int) = ((b % len : Nat) : Int) := fun _ => (Int.ofNat_tmod b len).symm
                 simp only [true_and, and_true, eq_self, implies_true, hw, imp_self]
                 intro _ f1
                 have f1' := f1
                 simp only [isPg, Bool.not_eq_false', Bool.and_eq_true, decide_eq_true_eq] at f1'
                 obtain ⟨⟨⟨⟨r0, r1⟩, ⟨s0, t0⟩⟩, ⟨s1, t1⟩⟩, ⟨s2, t2⟩⟩ := f1'
                 have hg := of_decide_eq_true r1
                 have h0 := of_decide_eq_true t0
                 have h1 := of_decide_eq_true t1
                 have h2 := of_decide_eq_true t2
                 have d0 : [x, y].getD 0 0 = x := rfl
                 have d1 : [x, y].getD 1 0 = y := rfl
                 simp only [d0, d1]
                 refine ⟨fun p1 => ⟨f1, ⟨rfl, by omega⟩, p1⟩, fun p1 => ⟨fun p2 => ⟨f1, ⟨rfl, by omega⟩, p1, p2⟩, fun p2 => ?_⟩⟩
                 have hl3 : 3 ≤ len := by have := of_decide_eq_false p2; omega
                 have p1' := p1
                 rw [Bool.not_eq_false'] at p1'
                 have hxy := of_decide_eq_true p1'
                 have sx : small x := hxy 0 (by show 0 < 2; omega)
                 have sy : small y := hxy 1 (by show 1 < 2; omega)
                 have hwl : IntKind.i64.wrap ((len : Int) - 1) = ((len - 1 : Nat) : Int) := by rw [wrap64 (by omega) (by omega)]; omega
                 have hp : PO g len := ⟨by omega, hg⟩
                 have o0 : PO g0 l0 := ⟨by omega, h0⟩
                 have o1 : PO g1 l1 := ⟨by omega, h1⟩
                 have o2 : PO g2 l2 := ⟨by omega, h2⟩
                 have hbl : b % len < len := Nat.mod_lt _ (by omega)
                 simp only [hwl, hm (by omega), Int.toNat_natCast, vPt_turn bk hp hl3 sx sy]
                 refine ⟨f1, ⟨rfl, by omega⟩, p1, p2, ⟨⟨by omega, by omega⟩, by omega⟩, by omega, ⟨⟨by omega, by omega⟩, by omega⟩, by omega, fun _ => ⟨by omega, ⟨by omega, by omega, by omega⟩, by omega, ⟨rfl, hp, o0, o1, o2, sx, sy⟩, by omega, ⟨rfl, hp.turn hl3, o0, o1, o2, sx, sy⟩, ?_⟩⟩
                 simp
             · trivial
           · trivial
         · trivial
       · trivial
     · trivial
   · trivial
 · trivial
noncomputable def GTU4 : Ctx := ⟨⟨tys, FL⟩, [(45, conR zf2_4C), (46, conR isPo4C), (19, conR isGeoC), (47, conR turnedC), (48, conR pSh4C), (49, conR polyPtC), (39, conR asPt4C), (50, pureCon polyAwF)]⟩
theorem gTU4 : CtxOk Tryz.prog GTU4 := ⟨⟨tysOk, flOk⟩, GamOk.cons zf2_4 (GamOk.cons isPo4 (GamOk.cons isGeo (GamOk.cons turned (GamOk.cons pSh4 (GamOk.cons polyPt (GamOk.cons asPt4 (GamOk.cons (.pure polyAw) GamOk.nil))))))), by kernel_rfl⟩
noncomputable def lawTu4C : List SV → RdM
 | [.agg [.slcc n len, .slcc h 4], .int .u8 byI, v, .agg [.int .i64 x, .int .i64 y]] => .read n fun o0 => (match intsFrom .i64 o0.c with
   | some (m0, g) => .read h fun o1 => (match hol4 o1.c with
   | some (q0, l0, q1, l1, q2, l2, q3, l3) => .read q0 fun o2 => (match intsFrom .i64 o2.c with
   | some (m2, g0) => .read q1 fun o3 => (match intsFrom .i64 o3.c with
   | some (m3, g1) => .read q2 fun o4 => (match intsFrom .i64 o4.c with
   | some (m4, g2) => .read q3 fun o5 => (match intsFrom .i64 o5.c with
   | some (m5, g3) => (match v.toB with
   | some bk => .ret ⟨[.agg [.slcc 0 len, .slcc 1 4], .int .u8 byI, .bool bk, .agg [.int .i64 x, .int .i64 y]], [(0, ⟨false, 28, .ints .i64 m0 g, 0⟩), (1, ⟨false, 26, .cells [.slcc 2 l0, .slcc 3 l1, .slcc 4 l2, .slcc 5 l3], 0⟩), (2, ⟨false, 28, .ints .i64 m2 g0, 0⟩), (3, ⟨false, 28, .ints .i64 m3 g1, 0⟩), (4, ⟨false, 28, .ints .i64 m4 g2, 0⟩), (5, ⟨false, 28, .ints .i64 m5 g3, 0⟩)], .tt, [], [], some (m0 = 2 * len ∧ m2 = 2 * l0 ∧ m3 = 2 * l1 ∧ m4 = 2 * l2 ∧ m5 = 2 * l3 ∧ 0 ≤ byI ∧ byI ≤ 255)⟩
   | none => .fail)
   | none => .fail)
   | none => .fail)
   | none => .fail)
   | none => .fail)
   | none => .fail)
   | none => .fail)
 | _ => .fail
theorem vc_lawTu4 (len : Nat) (byI : Int) (bk : Bool) (x y : Int) (l0 l1 l2 l3 : Nat) (_ _ _ _ : Nm)  (g : Nat → Int) (g0 : Nat → Int) (g1 : Nat → Int) (g2 : Nat → Int) (g3 : Nat → Int) : runA GTU4 6 [] [] (codeOf Tryz.f8) (init Tryz.f8.ntmps [.agg [.slcc 0 len, .slcc 1 4], .int .u8 byI, .bool bk, .agg [.int .i64 x, .int .i64 y]] [(0, ⟨false, 28, .ints .i64 (2 * len) g, 0⟩), (1, ⟨false, 26, .cells [.slcc 2 l0, .slcc 3 l1, .slcc 4 l2, .slcc 5 l3], 0⟩), (2, ⟨false, 28, .ints .i64 (2 * l0) g0, 0⟩), (3, ⟨false, 28, .ints .i64 (2 * l1) g1, 0⟩), (4, ⟨false, 28, .ints .i64 (2 * l2) g2, 0⟩), (5, ⟨false, 28, .ints .i64 (2 * l3) g3, 0⟩)] 6) (endK GTU4.E.T Tryz.f8.results.toList fun S v => postP 6 ⟨[.agg [.slcc 0 len, .slcc 1 4], .int .u8 byI, .bool bk, .agg [.int .i64 x, .int .i64 y]], [(0, ⟨false, 28, .ints .i64 (2 * len) g, 0⟩), (1, ⟨false, 26, .cells [.slcc 2 l0, .slcc 3 l1, .slcc 4 l2, .slcc 5 l3], 0⟩), (2, ⟨false, 28, .ints .i64 (2 * l0) g0, 0⟩), (3, ⟨false, 28, .ints .i64 (2 * l1) g1, 0⟩), (4, ⟨false, 28, .ints .i64 (2 * l2) g2, 0⟩), (5, ⟨false, 28, .ints .i64 (2 * l3) g3, 0⟩)], .tt, [], [], some (2 * len = 2 * len ∧ 2 * l0 = 2 * l0 ∧ 2 * l1 = 2 * l1 ∧ 2 * l2 = 2 * l2 ∧ 2 * l3 = 2 * l3 ∧ 0 ≤ byI ∧ byI ≤ 255)⟩ S v) = (
(2 * len = 2 * len ∧ 2 * l0 = 2 * l0 ∧ 2 * l1 = 2 * l1 ∧ 2 * l2 = 2 * l2 ∧ 2 * l3 = 2 * l3 ∧ True) ∧ ((!(fitB len && (true && fitB l0
&& fitB l1 && fitB l2 && fitB l3))) = true → True ∧ True) ∧ ((!(fitB len && (true && fitB l0 && fitB l1 && fitB l2 &&
 fitB l3))) = false → ((!(isPg (40 : Int) len g && isPg (20 : Int) l0 g0 && isPg (20 : Int) l1 g1 && isPg (20 : Int) l2 g2 && isPg (20 : Int)
 l3 g3)) = true → (2 * len = 2 * len ∧ 2 * l0 = 2 * l0 ∧ 2 * l1 = 2 * l1 ∧ 2 * l2 = 2 * l2 ∧ 2 * l3 = 2 * l3 ∧ True) ∧ (!(isPg (40 : Int) len g &&
 isPg (20 : Int) l0 g0 && isPg (20 : Int) l1 g1 && isPg (20 : Int) l2 g2 && isPg (20 : Int) l3 g3)) = true ∧ true = true ∧ True ∧ True) ∧ ((!(isPg (40 : Int) len
 g && isPg (20 : Int) l0 g0 && isPg (20 : Int) l1 g1 && isPg (20 : Int) l2 g2 && isPg (20 : Int) l3 g3)) = false → ((!geoAll (List.length [x, y]) fun (i : Nat)
=> List.getD [x, y] i (0 : Int)) = true → (2 * len = 2 * len ∧ 2 * l0 = 2 * l0 ∧ 2 * l1 = 2 * l1 ∧ 2 * l2 = 2 * l2 ∧ 2 * l3 = 2 * l3 ∧ True) ∧ (!(isPg
(40 : Int) len g && isPg (20 : Int) l0 g0 && isPg (20 : Int) l1 g1 && isPg (20 : Int) l2 g2 && isPg (20 : Int) l3 g3)) = false ∧ (List.length [x, y] = 2 ∧ 1 ≤
1000000) ∧ (!geoAll (List.length [x, y]) fun (i : Nat) => List.getD [x, y] i (0 : Int)) = true ∧ true = true ∧ True ∧ True) ∧ ((!geoAll (List.length [x, y]) fun (i : Nat) => List.getD [x, y] i (0 : Int)) =
 false → (decide ((↑len : Int) < 3) = true → (2 * len = 2 * len ∧ 2 * l0 = 2 * l0 ∧ 2 * l1 = 2 * l1 ∧ 2 * l2 = 2 * l2 ∧ 2 * l3 = 2 * l3 ∧ True) ∧
(!(isPg (40 : Int) len g && isPg (20 : Int) l0 g0 && isPg (20 : Int) l1 g1 && isPg (20 : Int) l2 g2 && isPg (20 : Int) l3 g3)) = false ∧ (List.length [x, y] =
2 ∧ 1 ≤ 1000000) ∧ (!geoAll (List.length [x, y]) fun (i : Nat) => List.getD [x, y] i (0 : Int)) = false ∧ decide ((↑len : Int) < 3) = true ∧ true = true ∧ True ∧ True) ∧ (decide ((↑len : Int) < (3 :
 Int)) = false → (2 * len = 2 * len ∧ 2 * l0 = 2 * l0 ∧ 2 * l1 = 2 * l1 ∧ 2 * l2 = 2 * l2 ∧ 2 * l3 = 2 * l3 ∧ True) ∧ (!(isPg (40 : Int) len g &&
 isPg (20 : Int) l0 g0 && isPg (20 : Int) l1 g1 && isPg (20 : Int) l2 g2 && isPg (20 : Int) l3 g3)) = false ∧ (List.length [x, y] = 2 ∧ 1 ≤ 1000000) ∧
(!geoAll (List.length [x, y]) fun (i : Nat) => List.getD [x, y] i (0 : Int)) = false ∧ decide ((↑len : Int) < 3) = false ∧ (((0 : Int) ≤ 0 ∧ 0 < (↑len : Int)) ∧ 1 ≤ 2 * len) ∧ 2 ≤ 2 * len ∧ (((0 : Int) ≤ Go.IntKind.wrap .i64 ((↑len : Int) - 1) ∧ Go.IntKind.wrap .i64 ((↑len : Int) - 1) < (↑len : Int)) ∧ 1 ≤ 2 * len) ∧ 0 + Int.toNat (Go.IntKind.wrap .i64 ((↑len : Int) - 1)) * 2 + 2 ≤ 2 * len ∧ true = true ∧ ((g 0 == g (0 + Int.toNat (Go.IntKind.wrap .i64 ((↑len : Int) - 1)) * 2) && (g 1 == g (0 + Int.toNat (Go.IntKind.wrap .i64 ((↑len : Int) - (1 :
 Int))) * 2 + 1) && true)) = true → True ∧ True) ∧ ((g 0 == g (0 + Int.toNat (Go.IntKind.wrap .i64 ((↑len : Int) - 1)) * 2) && (g 1 == g (0 + Int.toNat (Go.IntKind.wrap .i64 ((↑len : Int)
- (1 : Int))) * 2 + 1) && true)) = false → (↑len : Int) ≠ 0 ∧ (2 * len = 2 * len ∧ len ≤ 1000000 ∧ (0 : Int) ≤ Int.tmod (Go.IntKind.wrap .i64 byI) (↑len : Int) ∧ Int.tmod (Go.IntKind.wrap .i64 byI)
(↑len : Int) ≤ 1000000) ∧ true = true ∧ (2 * len = 2 * len ∧ 2 * l0 = 2 * l0 ∧ 2 * l1 = 2 * l1 ∧ 2 * l2 = 2 * l2 ∧ 2 * l3 = 2 * l3 ∧ len ≤ 1000000 ∧ l0 ≤
1000000 ∧ l1 ≤ 1000000 ∧ l2 ≤ 1000000 ∧ l3 ≤ 1000000) ∧ True ∧ (2 * len = 2 * len ∧ 2 * l0 = 2 * l0 ∧ 2 * l1 = 2 * l1 ∧ 2 * l2 = 2 * l2 ∧ 2 * l3 =
2 * l3 ∧ List.length [x, y] = 2 ∧ PO g len ∧ PO g0 l0 ∧ PO g1 l1 ∧ PO g2 l2 ∧ PO g3 l3 ∧ small (List.getD [x, y] 0 (0
: Int)) ∧ small (List.getD [x, y] 1 (0 : Int))) ∧ true = true ∧ (2 * len = 2 * len ∧ 2 * l0 = 2 * l0 ∧ 2 * l1 = 2 * l1 ∧ 2 * l2 = 2 * l2 ∧ 2 * l3 = 2 * l3 ∧ len ≤ 1000000 ∧ l0 ≤ 1000000 ∧ l1 ≤ 1000000 ∧ l2 ≤ 1000000 ∧ l3 ≤ 1000000) ∧ True ∧ (2 * len = 2 * len ∧ 2 * l0 = 2 * l0 ∧ 2 * l1 = 2 * l1 ∧ 2
* l2 = 2 * l2 ∧ 2 * l3 = 2 * l3 ∧ List.length [x, y] = 2 ∧ PO (tG g len (Int.toNat (Int.tmod (Go.IntKind.wrap .i64 byI) (↑len : Int))) bk) len ∧ PO g0 l0 ∧
 PO g1 l1 ∧ PO g2 l2 ∧ PO g3 l3 ∧ small (List.getD [x, y] 0 (0 : Int)) ∧ small (List.getD [x, y] 1 (0 : Int))) ∧ true = true ∧
(((vPt g len (List.getD [x, y] 0 (0 : Int)) (List.getD [x, y] 1 (0 : Int)) && !vPf g0 l0 (List.getD [x, y] 0 (0 : Int)) (List.getD [x, y] 1 (0 : Int)) && !vPf g1 l1
(List.getD [x, y] 0 (0 : Int)) (List.getD [x, y] 1 (0 : Int)) && !vPf g2 l2 (List.getD [x, y] 0 (0 : Int)) (List.getD [x, y] 1 (0 : Int)) && !vPf g3 l3 (List.getD [x, y] 0 (0
: Int)) (List.getD [x, y] 1 (0 : Int))) == (vPt (tG g len (Int.toNat (Int.tmod (Go.IntKind.wrap .i64 byI) (↑len : Int))) bk) len (List.getD [x, y] 0 (0 : Int)) (List.getD [x, y] 1 (0 : Int))
&& !vPf g0 l0 (List.getD [x, y] 0 (0 : Int)) (List.getD [x, y] 1 (0 : Int)) && !vPf g1 l1 (List.getD [x, y] 0 (0 : Int)) (List.getD [x, y] 1 (0 : Int)) && !vPf g2
 l2 (List.getD [x, y] 0 (0 : Int)) (List.getD [x, y] 1 (0 : Int)) && !vPf g3 l3 (List.getD [x, y] 0 (0 : Int)) (List.getD [x, y] 1 (0 : Int)))) = true → (((vPt g len (List.getD [x, y]
0 (0 : Int)) (List.getD [x, y] 1 (0 : Int)) && !vPf g0 l0 (List.getD [x, y] 0 (0 : Int)) (List.getD [x, y] 1 (0 : Int)) && !vPf g1 l1 (List.getD [x, y] 0 (0 : Int))
(List.getD [x, y] 1 (0 : Int)) && !vPf g2 l2 (List.getD [x, y] 0 (0 : Int)) (List.getD [x, y] 1 (0 : Int)) && !vPf g3 l3 (List.getD [x, y] 0 (0 : Int)) (List.getD [x, y] 1 (0
: Int))) == (vPt (tG g len (Int.toNat (Int.tmod (Go.IntKind.wrap .i64 byI) (↑len : Int))) bk) len (List.getD [x, y] 0 (0 : Int)) (List.getD [x, y] 1 (0 : Int)) && !vPf g0 l0
(List.getD [x, y] 0 (0 : Int)) (List.getD [x, y] 1 (0 : Int)) && !vPf g1 l1 (List.getD [x, y] 0 (0 : Int)) (List.getD [x, y] 1 (0 : Int)) && !vPf g2 l2 (List.getD [x, y] 0 (0
: Int)) (List.getD [x, y] 1 (0 : Int)) && !vPf g3 l3 (List.getD [x, y] 0 (0 : Int)) (List.getD [x, y] 1 (0 : Int)))) = true → True ∧ True) ∧ (((vPt g len (List.getD [x, y] 0 (0 :
 Int)) (List.getD [x, y] 1 (0 : Int)) && !vPf g0 l0 (List.getD [x, y] 0 (0 : Int)) (List.getD [x, y] 1 (0 : Int)) && !vPf g1 l1 (List.getD [x, y] 0 (0 : Int)) (List.getD [x, y] 1 (0 : Int)) && !vPf g2 l2 (List.getD [x, y] 0 (0 : Int)) (List.getD [x, y] 1 (0 : Int)) && !vPf g3 l3 (List.getD [x, y] 0 (0 : Int)) (List.getD [x, y] 1 (0 : Int))) ==
(vPt (tG g len (Int.toNat (Int.tmod (Go.IntKind.wrap .i64 byI) (↑len : Int))) bk) len (List.getD [x, y] 0 (0 : Int)) (List.getD [x, y] 1 (0 : Int)) && !vPf g0 l0 (List.getD [x, y]
0 (0 : Int)) (List.getD [x, y] 1 (0 : Int)) && !vPf g1 l1 (List.getD [x, y] 0 (0 : Int)) (List.getD [x, y] 1 (0 : Int)) && !vPf g2 l2 (List.getD [x, y] 0 (0 : Int))
(List.getD [x, y] 1 (0 : Int)) && !vPf g3 l3 (List.getD [x, y] 0 (0 : Int)) (List.getD [x, y] 1 (0 : Int)))) = false → False ∧ True)) ∧ (((vPt g len (List.getD [x, y] 0 (0 : Int))
(List.getD [x, y] 1 (0 : Int)) && !vPf g0 l0 (List.getD [x, y] 0 (0 : Int)) (List.getD [x, y] 1 (0 : Int)) && !vPf g1 l1 (List.getD [x, y] 0 (0 : Int)) (List.getD [x, y] 1 (0
: Int)) && !vPf g2 l2 (List.getD [x, y] 0 (0 : Int)) (List.getD [x, y] 1 (0 : Int)) && !vPf g3 l3 (List.getD [x, y] 0 (0 : Int)) (List.getD [x, y] 1 (0 : Int))) ==
(vPt (tG g len (Int.toNat (Int.tmod (Go.IntKind.wrap .i64 byI) (↑len : Int))) bk) len (List.getD [x, y] 0 (0 : Int)) (List.getD [x, y] 1 (0 : Int)) && !vPf g0 l0 (List.getD [x, y]
0 (0 : Int)) (List.getD [x, y] 1 (0 : Int)) && !vPf g1 l1 (List.getD [x, y] 0 (0 : Int)) (List.getD [x, y] 1 (0 : Int)) && !vPf g2 l2 (List.getD [x, y] 0 (0 : Int))
(List.getD [x, y] 1 (0 : Int)) && !vPf g3 l3 (List.getD [x, y] 0 (0 : Int)) (List.getD [x, y] 1 (0 : Int)))) = false → False ∧ True))))))) := by kernel_rfl
theorem lawTu4 : ConOk Tryz.prog 8 (conR lawTu4C) := by
 refine con_of_vc gTU4 Tryz.func8 rfl (by kernel_rfl) fun args => ?_
 unfold lawTu4C
 split
 · rename_i n len h byI v x y
   intro o0
   show RdM.All _ (match intsFrom .i64 o0.c with | some (m, g) => _ | none => _) _
   split
   · rename_i m0 g hm0
     intro o1
     show RdM.All _ (match hol4 o1.c with | some (q0, l0, q1, l1, q2, l2, q3, l3) => _ | none => _) _
     split
     · rename_i q0 l0 q1 l1 q2 l2 q3 l3 hm1
       intro o2
       show RdM.All _ (match intsFrom .i64 o2.c with | some (m, g) => _ | none => _) _
       split
       · rename_i m2 g0 hm2
         intro o3
         show RdM.All _ (match intsFrom .i64 o3.c with | some (m, g) => _ | none => _) _
         split
         · rename_i m3 g1 hm3
           intro o4
           show RdM.All _ (match intsFrom .i64 o4.c with | some (m, g) => _ | none => _) _
           split
           · rename_i m4 g2 hm4
             intro o5
             show RdM.All _ (match intsFrom .i64 o5.c with | some (m, g) => _ | none => _) _
             split
             · rename_i m5 g3 hm5
               show RdM.All _ (match v.toB with | some b => _ | none => _) _
               split
               · rename_i bk hbk
                 intro ho
                 replace ho : m0 = 2 * len ∧ m2 = 2 * l0 ∧ m3 = 2 * l1 ∧ m4 = 2 * l2 ∧ m5 = 2 * l3 ∧ 0 ≤ byI ∧ byI ≤ 255 := ho
                 obtain ⟨hsz0, hsz2, hsz3, hsz4, hsz5, ho⟩ := ho
                 subst hsz0
                 subst hsz2
                 subst hsz3
                 subst hsz4
                 subst hsz5
                 refine ⟨?_, _, _, (vc_lawTu4 len byI bk x y l0 l1 l2 l3 q0 q1 q2 q3 g g0 g1 g2 g3).mpr ?_⟩
                 · refine okFlag_mk rfl ⟨?_, ⟨trivial, (contR_ints hm0).1, ⟨trivial, hol4_spec hm1 (by simp [sgSig, fsts, nth, sameN_self]) (by simp [sgSig, fsts, nth, sameN_self]) (by simp [sgSig, fsts, nth, sameN_self]) (by simp [sgSig, fsts, nth, sameN_self]), ⟨trivial, (contR_ints hm2).1, ⟨trivial, (contR_ints hm3).1, ⟨trivial, (contR_ints hm4).1, ⟨trivial, (contR_ints hm5).1, trivial⟩⟩⟩⟩⟩⟩⟩
                   simp [eqvRL, eqvR, kEq_self, sgSig, fsts, nth, sameN_self, toB_eqvR hbk]
                 · obtain ⟨hb0, hb1⟩ := ho
                   obtain ⟨b, rfl⟩ : ∃ b : Nat, byI = b := ⟨byI.toNat, by omega⟩
                   have hw : IntKind.i64.wrap (b : Int) = b := wrap64 (by omega) (by omega)
                   have hm : 0 < len → Int.tmod (b : Int) (len : Int) = ((b % len : Nat) : Int) := fun _ => (Int.ofNat_tmod b len).symm
                   simp only [true_and, and_true, eq_self, implies_true, hw, imp_self]
                   intro _ f1
                   have f1' := f1
                   simp only [isPg, Bool.not_eq_false', Bool.and_eq_true, decide_eq_true_eq] at f1'
                   obtain ⟨⟨⟨⟨⟨r0, r1⟩, ⟨s0, t0⟩⟩, ⟨s1, t1⟩⟩, ⟨s2, t2⟩⟩, ⟨s3, t3⟩⟩ := f1'
                   have hg := of_decide_eq_true r1
                   have h0 := of_decide_eq_true t0
                   have h1 := of_decide_eq_true t1
                   have h2 := of_decide_eq_true t2
                   have h3 := of_decide_eq_true t3
                   have d0 : [x, y].getD 0 0 = x := rfl
                   have d1 : [x, y].getD 1 0 = y := rfl
                   simp only [d0, d1]
                   refine ⟨fun p1 => ⟨f1, ⟨rfl, by omega⟩, p1⟩, fun p1 => ⟨fun p2 => ⟨f1, ⟨rfl, by omega⟩, p1, p2⟩, fun p2 => ?_⟩⟩
                   have hl3 : 3 ≤ len := by have := of_decide_eq_false p2; omega
                   have p1' := p1
                   rw [Bool.not_eq_false'] at p1'
                   have hxy := of_decide_eq_true p1'
                   have sx : small x := hxy 0 (by show 0 < 2; omega)
                   have sy : small y := hxy 1 (by show 1 < 2; omega)
                   have hwl : IntKind.i64.wrap ((len : Int) - 1) = ((len - 1 : Nat) : Int) := by rw [wrap64 (by omega) (by omega)]; omega
                   have hp : PO g len := ⟨by omega, hg⟩
                   have o0 : PO g0 l0 := ⟨by omega, h0⟩
                   have o1 : PO g1 l1 := ⟨by omega, h1⟩
                   have o2 : PO g2 l2 := ⟨by omega, h2⟩
                   have o3 : PO g3 l3 := ⟨by omega, h3⟩
                   have hbl : b % len < len := Nat.mod_lt _ (by omega)
                   simp only [hwl, hm (by omega), Int.toNat_natCast, vPt_turn bk hp hl3 sx sy]
                   refine ⟨f1, ⟨rfl, by omega⟩, p1, p2, ⟨⟨by omega, by omega⟩, by omega⟩, by omega, ⟨⟨by omega, by omega⟩, by omega⟩, by omega, fun _ => ⟨by omega, ⟨by omega, by omega, by omega⟩, by omega, ⟨rfl, hp, o0, o1, o2, o3, sx, sy⟩, by omega, ⟨rfl, hp.turn hl3, o0, o1, o2, o3, sx, sy⟩, ?_⟩⟩
                   simp
               · trivial
             · trivial
           · trivial
         · trivial
       · trivial
     · trivial
   · trivial
 · trivial
def genOf : Cont → Option (Nat × (Nat → SV))
 | .gen n f => some (n, f)
 | _ => none
def aOf (f : Nat → SV) (i : Nat) : Option Addr := match f i with
 | .sla a _ _ => a
 | _ => none
def lOf (f : Nat → SV) (i : Nat) : Nat := match f i with
 | .sla _ l _ => l
 | _ => 0
def cOf (f : Nat → SV) (i : Nat) : Nat := match f i with
 | .sla _ _ c => c
 | _ => 0
def slG (f : Nat → SV) (i : Nat) : SV := .sla (aOf f i) (lOf f i) (cOf f i)
def isSl (f : Nat → SV) (k : Nat) : Prop := ∀ i, i < k → f i = slG f i
theorem slG_l (f : Nat → SV) (i : Nat) : lOf (slG f) i = lOf f i := rfl
theorem slG_is (f : Nat → SV) (k : Nat) : isSl (slG f) k := fun _ _ => rfl
theorem genOf_spec {σ : Sig} {c : Cont} {k : Nat} {f : Nat → SV} (h : genOf c = some (k, f)) (hs : isSl f k) : contR σ c (.gen k (slG f)) := by
 unfold genOf at h
 split at h
 · rename_i n f'
   simp only [Option.some.injEq, Prod.mk.injEq] at h
   obtain ⟨rfl, rfl⟩ := h
   refine ⟨Nat.le_refl _, fun i hi => ?_⟩
   show eqvR σ (f' i) (slG f' i)
   rw [hs i hi]
   exact ⟨rfl, rfl, rfl⟩
 · cases h
def zg4 (k : Nat) (f : Nat → SV) : Fam := ⟨Nat, fun i =>
 ⟨18, [(8, .slcc 0 k), (9, .int .i64 k), (10, .int .i64 i)], [(0, ⟨false, 26, .gen k (slG f), 0⟩)], 1⟩, fun i => i ≤ k ∧ ∀ j, j < i → fitB (lOf f j) = true, fun i => k - i⟩
noncomputable def zf3gC : List SV → RdM
 | [.slcc h k] => .read h fun o0 => (match genOf o0.c with
   | some (kk, f) => .ret ⟨[.slcc 0 k], [(0, ⟨false, 26, .gen kk (slG f), 0⟩)], .bool (fitB k && allB (fun i => fitB (lOf f i)) k), [], [], some (kk = k ∧ isSl f kk)⟩
   | none => .fail)
 | _ => .fail
theorem vc_zf3g (k kk : Nat) (f : Nat → SV) : runA G0 1 [(4, zg4 k f)] [] (codeOf Tryz.f78) (init Tryz.f78.ntmps [.slcc 0 k] [(0, ⟨false, 26, .gen kk (slG f), 0⟩)] 1) (endK G0.E.T Tryz.f78.results.toList fun S v => postP 1 ⟨[.slcc 0 k], [(0, ⟨false, 26, .gen kk (slG f), 0⟩)], .bool (fitB k && allB (fun i => fitB (lOf f i)) k), [], [], some (kk = k ∧ isSl f kk)⟩ S v) = (
(decide (2147483647 < (↑k : Int)) = true → (fitB k && allB (fun (i : Nat) => fitB (lOf f i)) k) = false ∧ True) ∧ (decide (2147483647 < (↑k : Int)) = false → (∃
(i : Nat), (i ≤ k ∧ ∀ (j : Nat), j < i → fitB (lOf f j) = true) ∧ ((True ∧ k = k) ∧ (↑k : Int) = (↑k : Int) ∧ 0 = (↑i : Int) ∧ True) ∧ (∀ (i : Nat), i < k → true = true) ∧ (k ≤ kk ∧ ∀ (i : Nat), i < k →
 aOf f i = aOf f i ∧ lOf f i = lOf f i ∧ cOf f i = cOf f i) ∧ True) ∧ ∀ (i : Nat), (i ≤ k ∧ ∀ (j : Nat), j < i → fitB
(lOf f j) = true) → (decide ((↑i : Int) < (↑k : Int)) = true → ((0 ≤ (↑i : Int) ∧ (↑i : Int) < (↑k : Int)) ∧ 1 ≤ k) ∧ 0 + Int.toNat (↑i : Int) * 1 + 1 ≤ k ∧ (decide ((2147483647 : Int) <
(↑(lOf f (0 + Int.toNat (↑i : Int) * 1)) : Int)) = true → (fitB k && allB (fun (i : Nat) => fitB (lOf f i)) k) = false ∧ True) ∧ (decide
(2147483647 < (↑(lOf f (0 + Int.toNat (↑i : Int) * 1)) : Int)) = false → ∃ (i' : Nat), (i' ≤ k ∧ ∀ (j : Nat), j < i' → fitB (lOf f j) = true) ∧ k - i' < k - i ∧ ((True ∧ k
= k) ∧ (↑k : Int) = (↑k : Int) ∧ Go.IntKind.wrap .i64 ((↑i : Int) + 1) = (↑i' : Int) ∧ True) ∧ (∀ (i : Nat), i < k → true = true) ∧ (k ≤ k ∧ ∀ (i : Nat), i < k → aOf f i = aOf f i ∧ lOf f
 i = lOf f i ∧ cOf f i = cOf f i) ∧ True)) ∧ (decide ((↑i : Int) < (↑k : Int)) = false → (fitB k && allB (fun (i : Nat) => fitB
(lOf f i)) k) = true ∧ True))) := by kernel_rfl
theorem zf3g : ConOk Tryz.prog 78 (conR zf3gC) := by
 refine con_of_vc g0 Tryz.func78 rfl (by kernel_rfl) fun args => ?_
 unfold zf3gC
 split
 · rename_i h k
   intro o0
   show RdM.All _ (match genOf o0.c with | some (kk, f) => _ | none => _) _
   split
   · rename_i kk f hm0
     intro ho
     replace ho : kk = k ∧ isSl f kk := ho
     refine ⟨?_, _, _, (vc_zf3g k kk f).mpr ?_⟩
     · refine okFlag_mk rfl ⟨?_, ⟨fun _ _ => rfl, genOf_spec hm0 ho.2, trivial⟩⟩
       simp [eqvRL, eqvR, sgSig, fsts, nth, sameN_self]
     · obtain ⟨rfl, hs⟩ := ho
       simp only [true_and, and_true, eq_self, Nat.le_refl, implies_true, Int.toNat_natCast]
       refine ⟨fun h => ?_, fun h => ⟨⟨0, ⟨by omega, fun j hj => by omega⟩, rfl⟩, fun i hi => ⟨fun h => ?_, fun h => ?_⟩⟩⟩
       · have h := of_decide_eq_true h
         have : fitB kk = false := decide_eq_false (by omega)
         rw [this]
         rfl
       · have h0 := of_decide_eq_false ‹decide _ = false›
         have h := of_decide_eq_true h
         have hik : i < kk := by omega
         have hw : IntKind.i64.wrap ((i : Int) + 1) = ((i + 1 : Nat) : Int) := by rw [wrap64 (by omega) (by omega)]; omega
         have e : 0 + i * 1 = i := by omega
         simp only [hw, e]
         refine ⟨⟨⟨by omega, by omega⟩, by omega⟩, by omega, fun q => ?_, fun q => ⟨i + 1, ⟨by omega, fun j hj => ?_⟩, by omega, rfl⟩⟩
         · have q := of_decide_eq_true q
           have : fitB (lOf f i) = false := decide_eq_false (by omega)
           rw [allB_no (p := fun i => fitB (lOf f i)) hik this]
           simp
         · have q := of_decide_eq_false q
           by_cases u : j = i
           · subst u; exact decide_eq_true (by omega)
           · exact hi.2 j (by omega)
       · have h0 := of_decide_eq_false h
         have : i = kk := by omega
         subst this
         have h9 := of_decide_eq_false ‹decide (2147483647 < (i : Int)) = false›
         rw [show fitB i = true from decide_eq_true (by omega), allB_all (p := fun i => fitB (lOf f i)) hi.2]
         rfl
   · trivial
 · trivial
noncomputable def Gzfg : Ctx := ⟨⟨tys, []⟩, [(78, conR zf3gC)]⟩
theorem gzfg : CtxOk Tryz.prog Gzfg := ⟨⟨tysOk, FlatsOk.nil⟩, GamOk.cons zf3g GamOk.nil, by kernel_rfl⟩
noncomputable def zf2gC : List SV → RdM
 | [.agg [.slcc n len, .slcc h k]] => .read n fun o0 => (match intsFrom .i64 o0.c with
   | some (m0, g) => .read h fun o1 => (match genOf o1.c with
   | some (kk, f) => .ret ⟨[.agg [.slcc 0 len, .slcc 1 k]], [(0, ⟨false, 28, .ints .i64 m0 g, 0⟩), (1, ⟨false, 26, .gen kk (slG f), 0⟩)], .bool (fitB len && (fitB k && allB (fun i => fitB (lOf f i)) k)), [], [], some (m0 = 2 * len ∧ kk = k ∧ isSl f kk)⟩
   | none => .fail)
   | none => .fail)
 | _ => .fail
theorem vc_zf2g (len k kk : Nat) (f : Nat → SV)  (g : Nat → Int) : runA Gzfg 2 [] [] (codeOf Tryz.f45) (init Tryz.f45.ntmps [.agg [.slcc 0 len, .slcc 1 k]] [(0, ⟨false, 28, .ints .i64 (2 * len) g, 0⟩), (1, ⟨false, 26, .gen kk (slG f), 0⟩)] 2) (endK Gzfg.E.T Tryz.f45.results.toList fun S v => postP 2 ⟨[.agg [.slcc 0 len, .slcc 1 k]], [(0, ⟨false, 28, .ints .i64 (2 * len) g, 0⟩), (1, ⟨false, 26, .gen kk (slG f), 0⟩)], .bool (fitB len && (fitB k && allB (fun i => fitB (lOf f i)) k)), [], [], some (2 * len = 2 * len ∧ kk = k ∧ isSl f kk)⟩ S v) = (
(decide (2147483647 < (↑len : Int)) = true → (fitB len && (fitB k && allB (fun (i : Nat) => fitB (lOf f i)) k)) = false ∧ True) ∧ (decide ((2147483647 :
 Int) < (↑len : Int)) = false → (kk = k ∧ isSl (slG f) kk) ∧ ((!(fitB k && allB (fun (i : Nat) => fitB (lOf (slG f) i)) k)) =
 true → (fitB len && (fitB k && allB (fun (i : Nat) => fitB (lOf f i)) k)) = false ∧ True) ∧ ((!(fitB k && allB (fun (i :
 Nat) => fitB (lOf (slG f) i)) k)) = false → (fitB len && (fitB k && allB (fun (i : Nat) => fitB (lOf f i))
 k)) = true ∧ True))) := by kernel_rfl
theorem zf2g : ConOk Tryz.prog 45 (conR zf2gC) := by
 refine con_of_vc gzfg Tryz.func45 rfl (by kernel_rfl) fun args => ?_
 unfold zf2gC
 split
 · rename_i n len h k
   intro o0
   show RdM.All _ (match intsFrom .i64 o0.c with | some (m, g) => _ | none => _) _
   split
   · rename_i m0 g hm0
     intro o1
     show RdM.All _ (match genOf o1.c with | some (kk, f) => _ | none => _) _
     split
     · rename_i kk f hm1
       intro ho
       replace ho : m0 = 2 * len ∧ kk = k ∧ isSl f kk := ho
       obtain ⟨hsz0, ho⟩ := ho
       subst hsz0
       refine ⟨?_, _, _, (vc_zf2g len k kk f g).mpr ?_⟩
       · refine okFlag_mk rfl ⟨?_, ⟨trivial, (contR_ints hm0).1, ⟨fun _ _ => rfl, genOf_spec hm1 ho.2, trivial⟩⟩⟩
         simp [eqvRL, eqvR, sgSig, fsts, nth, sameN_self]
       · obtain ⟨rfl, hs⟩ := ho
         simp only [true_and, and_true, eq_self, slG_l]
         generalize (fitB kk && allB (fun i => fitB (lOf f i)) kk) = B
         refine ⟨fun h => ?_, fun h => ⟨slG_is f kk, fun q => ?_, fun q => ?_⟩⟩
         · have h := of_decide_eq_true h
           rw [show fitB len = false from decide_eq_false (by omega)]
           rfl
         · cases B
           · simp
           · cases q
         · have h := of_decide_eq_false h
           rw [show fitB len = true from decide_eq_true (by omega)]
           cases B
           · cases q
           · rfl
     · trivial
   · trivial
 · trivial
noncomputable def isPogC : List SV → RdM
 | [.agg [.slcc n len, .slcc h k]] => .read n fun o0 => (match intsFrom .i64 o0.c with
   | some (m0, g) => .read h fun o1 => (match genOf o1.c with
   | some (kk, f) => .ret ⟨[.agg [.slcc 0 len, .slcc 1 k]], [(0, ⟨false, 28, .ints .i64 m0 g, 0⟩), (1, ⟨false, 26, .gen kk (slG f), 0⟩)], .ff, [], [], some (m0 = 2 * len ∧ 4 < k ∧ kk = k ∧ isSl f kk)⟩
   | none => .fail)
   | none => .fail)
 | _ => .fail
theorem vc_isPog (len k kk : Nat) (f : Nat → SV)  (g : Nat → Int) : runA Gzf 2 [] [] (codeOf Tryz.f46) (init Tryz.f46.ntmps [.agg [.slcc 0 len, .slcc 1 k]] [(0, ⟨false, 28, .ints .i64 (2 * len) g, 0⟩), (1, ⟨false, 26, .gen kk (slG f), 0⟩)] 2) (endK Gzf.E.T Tryz.f46.results.toList fun S v => postP 2 ⟨[.agg [.slcc 0 len, .slcc 1 k]], [(0, ⟨false, 28, .ints .i64 (2 * len) g, 0⟩), (1, ⟨false, 26, .gen kk (slG f), 0⟩)], .ff, [], [], some (2 * len = 2 * len ∧ 4 < k ∧ kk = k ∧ isSl f kk)⟩ S v) = (
(decide (40 < (↑len : Int)) = true → True ∧ True) ∧ (decide (40 < (↑len : Int)) = false → (decide (4 < (↑k : Int)) = true → True ∧ True) ∧ (decide (4 < (↑k : Int)) = false → (2 * len = 2 * len ∧ len ≤
1000000) ∧ ((!geoAll (2 * len) g) = true → True ∧ True) ∧ ((!geoAll (2 * len) g) = false → False)))) := by kernel_rfl
theorem isPog : ConOk Tryz.prog 46 (conR isPogC) := by
 refine con_of_vc gzf Tryz.func46 rfl (by kernel_rfl) fun args => ?_
 unfold isPogC
 split
 · rename_i n len h k
   intro o0
   show RdM.All _ (match intsFrom .i64 o0.c with | some (m, g) => _ | none => _) _
   split
   · rename_i m0 g hm0
     intro o1
     show RdM.All _ (match genOf o1.c with | some (kk, f) => _ | none => _) _
     split
     · rename_i kk f hm1
       intro ho
       replace ho : m0 = 2 * len ∧ 4 < k ∧ kk = k ∧ isSl f kk := ho
       obtain ⟨hsz0, ho⟩ := ho
       subst hsz0
       refine ⟨?_, _, _, (vc_isPog len k kk f g).mpr ?_⟩
       · refine okFlag_mk rfl ⟨?_, ⟨trivial, (contR_ints hm0).1, ⟨fun _ _ => rfl, genOf_spec hm1 ho.2.2, trivial⟩⟩⟩
         simp [eqvRL, eqvR, sgSig, fsts, nth, sameN_self]
       · obtain ⟨h4, rfl, hs⟩ := ho
         simp
         omega
     · trivial
   · trivial
 · trivial
noncomputable def GTUg : Ctx := ⟨⟨tys, FL⟩, [(45, conR zf2gC), (46, conR isPogC)]⟩
theorem gTUg : CtxOk Tryz.prog GTUg := ⟨⟨tysOk, flOk⟩, GamOk.cons zf2g (GamOk.cons isPog GamOk.nil), by kernel_rfl⟩
noncomputable def lawTuGC : List SV → RdM
 | [.agg [.slcc n len, .slcc h k], .int .u8 byI, v, .agg [.int .i64 x, .int .i64 y]] => .read n fun o0 => (match intsFrom .i64 o0.c with
   | some (m0, g) => .read h fun o1 => (match genOf o1.c with
   | some (kk, f) => (match v.toB with
   | some bk => .ret ⟨[.agg [.slcc 0 len, .slcc 1 k], .int .u8 byI, .bool bk, .agg [.int .i64 x, .int .i64 y]], [(0, ⟨false, 28, .ints .i64 m0 g, 0⟩), (1, ⟨false, 26, .gen kk (slG f), 0⟩)], .tt, [], [], some (m0 = 2 * len ∧ 4 < k ∧ kk = k ∧ isSl f kk)⟩
   | none => .fail)
   | none => .fail)
   | none => .fail)
 | _ => .fail
theorem vc_lawTuG (len k kk : Nat) (byI : Int) (bk : Bool) (x y : Int) (f : Nat → SV)  (g : Nat → Int) : runA GTUg 2 [] [] (codeOf Tryz.f8) (init Tryz.f8.ntmps [.agg [.slcc 0 len, .slcc 1 k], .int .u8 byI, .bool bk, .agg [.int .i64 x, .int .i64 y]] [(0, ⟨false, 28, .ints .i64 (2 * len) g, 0⟩), (1, ⟨false, 26, .gen kk (slG f), 0⟩)] 2) (endK GTUg.E.T Tryz.f8.results.toList fun S v => postP 2 ⟨[.agg [.slcc 0 len, .slcc 1 k], .int .u8 byI, .bool bk, .agg [.int .i64 x, .int .i64 y]], [(0, ⟨false, 28, .ints .i64 (2 * len) g, 0⟩), (1, ⟨false, 26, .gen kk (slG f), 0⟩)], .tt, [], [], some (2 * len = 2 * len ∧ 4 < k ∧ kk = k ∧ isSl f kk)⟩ S v) = (
(2 * len = 2 * len ∧ kk = k ∧ isSl (slG f) kk) ∧ ((!(fitB len && (fitB k && allB (fun (i : Nat) => fitB (lOf
(slG f) i)) k))) = true → True ∧ True) ∧ ((!(fitB len && (fitB k && allB (fun (i : Nat) => fitB (lOf (slG f) i)) k))) =
 false → (2 * len = 2 * len ∧ 4 < k ∧ kk = k ∧ isSl (slG f) kk) ∧ true = true ∧ True ∧ True)) := by kernel_rfl
theorem lawTuG : ConOk Tryz.prog 8 (conR lawTuGC) := by
 refine con_of_vc gTUg Tryz.func8 rfl (by kernel_rfl) fun args => ?_
 unfold lawTuGC
 split
 · rename_i n len h k byI v x y
   intro o0
   show RdM.All _ (match intsFrom .i64 o0.c with | some (m, g) => _ | none => _) _
   split
   · rename_i m0 g hm0
     intro o1
     show RdM.All _ (match genOf o1.c with | some (kk, f) => _ | none => _) _
     split
     · rename_i kk f hm1
       show RdM.All _ (match v.toB with | some b => _ | none => _) _
       split
       · rename_i bk hbk
         intro ho
         replace ho : m0 = 2 * len ∧ 4 < k ∧ kk = k ∧ isSl f kk := ho
         obtain ⟨hsz0, ho⟩ := ho
         subst hsz0
         refine ⟨?_, _, _, (vc_lawTuG len k kk byI bk x y f g).mpr ?_⟩
         · refine okFlag_mk rfl ⟨?_, ⟨trivial, (contR_ints hm0).1, ⟨fun _ _ => rfl, genOf_spec hm1 ho.2.2, trivial⟩⟩⟩
           simp [eqvRL, eqvR, kEq_self, sgSig, fsts, nth, sameN_self, toB_eqvR hbk]
         · obtain ⟨h4, rfl, hs⟩ := ho
           simp [h4, slG_is]
       · trivial
     · trivial
   · trivial
 · trivial
end Go.Proofs.Tryz.Sx

namespace Go.Sx
open Go.RowKit Go.ChangeShapes Go.WideShapes Go.ChangeAt
section
variable {H : Type} {enc : TypeId × Value → H} {P : Program}
theorem trodAll_below (hl : laidOutB P = true) {W W' : World} (hb : Below W.heap.size W W') : ∀ {ts : List TypeId} {vs : List Value} {ds : List (DataW H)} {ps : List MemPlace},
   (ts.all fun t => P.readableRec t && decide (t < P.types.size)) = true → DataW.TrodAll enc P W 0 (fun _ => true) true ts vs ds ps → (∀ x ∈ ps, x.block < W.heap.size) →
   DataW.TrodAll enc P W' 0 (fun b => decide (b < W.heap.size)) true ts vs ds ps
 | [], vs, ds, ps, _, h, _ => by
   cases vs <;> cases ds <;> simp_all [DataW.TrodAll]
 | t :: ts, vs, ds, ps, ht, h, hlt => by
   obtain ⟨v, vs', d, ds', p, q, rfl, rfl, rfl, h1, h2⟩ := trodAll_cons h
   simp only [List.all_cons, Bool.and_eq_true, decide_eq_true_eq] at ht
   exact ⟨p, q, Below.trod hl ht.1.1 ht.1.2 h1 hb (fun x hx => hlt x (by simp [hx])), trodAll_below hl hb ht.2 h2 (fun x hx => hlt x (by simp [hx])), rfl⟩
theorem post_true (hl : laidOutB P = true) {f : Func} {s : ChangeSpec} {apart : Bool} {W W' : World} {args : Array Value} {ds : List (DataW H)} {before : List MemPlace}
   (hW : DataW.Whole enc P f.params.toList s.vars apart W args.toList ds [] before) (hb : Below W.heap.size W W') {bt : TypeId} (hbt : P.underlying bt = some .bool) (hr : f.resultTypes = #[bt])
   (hvars : s.vars = []) (hres : (s.fn H (ds ++ [])).results = [.lit (.bool true)]) (hargs : (s.fn H (ds ++ [])).args = ds) (hvs : (s.fn H (ds ++ [])).vars = [])
   (hp : (f.params.toList.all fun t => P.readableRec t && decide (t < P.types.size)) = true) :
   s.post enc P f apart true false false W args (.bool true) W' := by
 have hW' := hW
 obtain ⟨p, q, hA, hV, hpq, _, _⟩ := hW
 rw [hvars] at hV
 obtain ⟨_, rfl⟩ := trodVars_none hV
 rw [List.append_nil] at hpq
 subst hpq
 refine ⟨ds, [], before, [], before, [], hW', ?_, ?_, ?_, hb.frame _, fun h => by cases h⟩
 · rw [hres, hr]
   exact trodAll_mk1 (shut_bool hbt true)
 · rw [hargs]
   exact trodAll_below hl hb hp hA (fun x hx => by simpa using hW'.lt x hx)
 · rw [hvars, hvs]; rfl
end
end Go.Sx

namespace Go.Sx
open Go.RowKit Go.ChangeShapes Go.WideShapes Go.ChangeAt
section
variable {P : Program} {W : World} {r : Reach} {b0 : Nat}
theorem int_cell {u : TypeId} {v : Value} (hu : P.underlying u = some (.int .i64)) (h : Cell.okWide P W r b0 u v) : ∃ n : Int, v = .int .i64 n := by
 unfold Cell.okWide at h
 rw [hu] at h
 simp only at h
 unfold Cell.ok at h
 rw [hu] at h
 cases v <;> simp only at h
 exact ⟨_, by rw [h.1]⟩
theorem open_ints {t : TypeId} {v : Value} {ts : List TypeId} {n : Nat} (ha : (∃ fs, P.underlying t = some (.struct fs)) ∨ (∃ m e, P.underlying t = some (.array m e))) (hc : P.cellTypes P.depth t = some ts)
   (hts : ∀ u ∈ ts, P.underlying u = some (.int .i64)) (hn : P.cellsOf t = n) (hv : Value.okWide P W r b0 t v) : ∃ l : List Int, l.length = n ∧ v = .agg (l.map (Value.int .i64)).toArray := by
 have key : ∃ cs, v = .agg cs ∧ cs.size = P.cellsOf t ∧ Row.okWide P W r b0 t cs := by
   unfold Value.okWide at hv
   rcases ha with ⟨fs, h⟩ | ⟨m, e, h⟩ <;> (rw [h] at hv; exact hv)
 obtain ⟨cs, rfl, hsz, ts', hts', _, hcell⟩ := key
 rw [hc] at hts'
 simp only [Option.some.injEq] at hts'
 subst hts'
 have hall : ∀ v ∈ cs.toList, ∃ n : Int, v = .int .i64 n := by
   intro v hv
   obtain ⟨i, hi, rfl⟩ := List.getElem_of_mem hv
   obtain ⟨u, hu, hok⟩ := hcell i _ (by rw [Array.getElem?_eq_getElem (by simpa using hi)])
   exact int_cell (hts u (List.mem_of_getElem? hu)) hok
 have : ∃ l : List Int, cs.toList = l.map (Value.int .i64) := by
   clear hcell hsz hv
   generalize cs.toList = L at hall
   induction L with
   | nil => exact ⟨[], rfl⟩
   | cons x r ih =>
     obtain ⟨n, rfl⟩ := hall x (by simp)
     obtain ⟨l, hl⟩ := ih (fun v hv => hall v (by simp [hv]))
     exact ⟨n :: l, by simp [hl]⟩
 obtain ⟨l, hl⟩ := this
 refine ⟨l, ?_, ?_⟩
 · have := congrArg List.length hl
   simp at this
   omega
 · rw [← hl]
theorem list2 {α : Type} {l : List α} (h : l.length = 2) : ∃ a b, l = [a, b] := by
 match l, h with
 | [a, b], _ => exact ⟨a, b, rfl⟩
end
end Go.Sx

namespace Go.Sx
open Go.RowKit Go.ChangeShapes Go.WideShapes Go.ChangeAt
section
variable {H : Type} {enc : TypeId × Value → H} {P : Program} {W : World} {r : Reach} {b0 : Nat}
def IntsAt (W : World) (a : Option Addr) (cap n : Nat) (g : Nat → Int) : Prop := match a with
 | none => n = 0 ∧ cap = 0
 | some a => (cap ≤ maxLen ∧ (a.spot = none ∨ n = 0 ∧ cap = 0)) ∧ ∀ j, j < n → W.cell? ⟨a.block, a.off + j, none⟩ = some (.int .i64 (g j))
theorem addr_add (a : Addr) (n : Nat) (h : a.spot = none) : a.add n = ⟨a.block, a.off + n, none⟩ := by
 obtain ⟨b, o, s⟩ := a
 simp only at h
 subst h
 exact Addr.add_lit ..
end
section
variable {P : Program} {W : World}
theorem hsat_ro {k : Nat} {H : Heap} {ρ : Rho} (hk : ∀ n o, look H n = some o → n < k ∧ o.rw = false ∧ o.c.bd (· < k) ∧ OSat W ρ o (ρ n)) : HSat W (· < W.heap.size) (· < k) H ρ W where
 os := rfl
 tape := rfl
 output := rfl
 size := Nat.le_refl _
 frlt := fun _ h => h
 frame := fun _ _ => rfl
 used := fun n o h => (hk n o h).1
 bd := fun n o h => (hk n o h).2.2.1
 obj := fun n o h => (hk n o h).2.2.2
 inj := fun n _ o _ _ _ h _ _ hr => by rw [(hk n o h).2.1] at hr; cases hr
 free := fun n o _ h hr => by rw [(hk n o h).2.1] at hr; cases hr
theorem HSat.toBelow {U : Nm → Prop} {H : Heap} {ρ : Rho} {W' : World} (h : HSat W (· < W.heap.size) U H ρ W') : Below W.heap.size W W' :=
 ⟨h.os, h.tape, h.output, h.size, fun k hk => h.frame k hk⟩
theorem calls_of_con {f k : Nat} {C : Con} {fn : Func} (h : ConOk P f C) (hf : P.funcs[f]? = some fn) (hb : fn.body.isNone = false) (hnm : (fn.name == "runtime.NumGoroutine") = false)
   {args : List SV} {H : Heap} {ρ : Rho} {e : Eff} (hk : ∀ n o, look H n = some o → n < k ∧ o.rw = false ∧ o.c.bd (· < k) ∧ OSat W ρ o (ρ n)) (ha : bdL (· < k) args)
   (hc : C args (look H) k = some e) (ho : okP e.obl) (hv : e.val = some .tt) :
   Calls P f (denL ρ args).toArray W fun en w' => en = .returned (.bool true) ∧ Below W.heap.size W w' := by
 have := h.calls (hsat_ro hk) ha (fun j _ (h : k + j < k) => absurd h (by omega)) hc ho
 rcases this with ⟨_, h1⟩ | ⟨v', w', h1, _⟩
 · refine h1.mono ?_
   rintro en w' ⟨ρ', _, h2, v, h3, _, rfl⟩
   rw [hv] at h3
   simp only [Option.some.injEq] at h3
   subst h3
   exact ⟨rfl, h2.toBelow⟩
 · simp only [callFunc, Sem.run_bind, run_program, Result.andThen_ok, hf, hnm, hb, Bool.false_eq_true, if_false, Sem.run_pure] at h1
   cases h1
end
def rhoOf (a : Option Addr) (cap : Nat) : Option (Nat × Nat × Nat) := a.map fun a => (a.block, a.off, match a.spot with
 | none => cap
 | some k => maxLen + 1 + k)
theorem osat_ints {W : World} {ρ : Rho} {a : Option Addr} {cap n e : Nat} {g : Nat → Int} (h : IntsAt W a cap n g) : OSat W ρ ⟨false, e, .ints .i64 n g, 0⟩ (rhoOf a cap) := by
 cases a with
 | none => exact h.1
 | some a =>
   refine ⟨fun i hi => h.2 i hi, (nomatch ·), fun hn => ?_⟩
   have hn' : 0 < n := hn
   rcases h.1.2 with h1 | h1
   · rw [h1]; exact h.1.1
   · omega
theorem den_slcc {ρ : Rho} {n : Nm} {a : Option Addr} {cap len m : Nat} {W : World} {g : Nat → Int} (hρ : ρ n = rhoOf a cap) (h : IntsAt W a cap m g) : (SV.slcc n len).den ρ = .slice a len cap := by
 show Value.slice (ρ.addrC n) len (ρ.cap n) = _
 unfold Rho.addrC Rho.cap
 rw [hρ]
 cases a with
 | none => simp [rhoOf, h.2]
 | some a =>
   obtain ⟨b, o, s⟩ := a
   obtain ⟨⟨h1, h2⟩, _⟩ := h
   cases s with
   | none => simp [rhoOf, Rho.sp_le h1, Rho.cp_le h1]
   | some k =>
     have : cap = 0 := by rcases h2 with h2 | h2; · cases h2
                          · exact h2.2
     subst this
     have hk : ¬ maxLen + 1 + k ≤ maxLen := by omega
     simp [rhoOf, Rho.sp, Rho.cp, hk]
end Go.Sx

namespace Go.Sx
open Go.RowKit Go.ChangeShapes Go.WideShapes Go.ChangeAt
section
variable {H : Type} {enc : TypeId × Value → H} {P : Program} {W : World} {r : Reach} {b0 : Nat}
theorem open_ptsC {t e : TypeId} {f0 f1 : Field} (ht : P.underlying t = some (.slice e)) (he : P.underlying e = some (.struct #[f0, f1])) (ce : P.cellsOf e = 2) (o0 : f0.offset = 0) (o1 : f1.offset = 1)
   (c0 : P.cellsOf f0.type = 1) (c1 : P.cellsOf f1.type = 1) (u0 : P.underlying f0.type = some (.int .i64)) (u1 : P.underlying f1.type = some (.int .i64)) {v : Value}
   {n0 : Nat} {x0 : DataW H × List MemPlace} (hf : DataW.trod enc P W 0 (fun _ => true) true n0 t [v] = some x0) : ∃ a len cap g, v = .slice a len cap ∧ cap ≤ maxLen ∧ IntsAt W a cap (2 * len) g := by
 rcases Go.Deep.open_slice ht hf with ⟨hcs, _⟩ | ⟨a, len, cap, m, n, D, Pl, hcs, _, hl, hm, hmm, _, hx⟩
 · simp only [List.cons.injEq, and_true] at hcs
   subst hcs
   exact ⟨none, 0, 0, fun _ => 0, rfl, by decide, rfl, rfl⟩
 · simp only [List.cons.injEq, and_true] at hcs
   subst hcs
   by_cases hc0 : cap = 0
   · subst hc0
     have : len = 0 := by omega
     subst this
     exact ⟨some a, 0, 0, fun _ => 0, rfl, by decide, ⟨by decide, .inr ⟨rfl, rfl⟩⟩, fun j hj => by omega⟩
   have hm0 : 0 < m := by rw [hmm]; simp; omega
   have hspot : a.spot = none := by
     obtain ⟨cs', h1, _⟩ := hx 0 hm0
     rw [ce] at h1
     obtain ⟨_, hlen, hcell⟩ := World.cells?_some h1
     have := hcell 0 (by omega)
     have h2 : W.cell? a = cs'[0]? := by simpa [Addr.add] using this
     match cs', hlen with
     | [v0, v1], _ => exact World.cell?_spot (by simpa using h2)
   have hcells : ∀ i, i < len → ∃ x y : Int, W.cell? ⟨a.block, a.off + 2 * i, none⟩ = some (.int .i64 x) ∧ W.cell? ⟨a.block, a.off + (2 * i + 1), none⟩ = some (.int .i64 y) := by
     intro i hi
     have hlm : len ≤ m := by rw [hmm]; simpa using hl
     obtain ⟨cs', h1, h2⟩ := hx i (by omega)
     rw [ce] at h1
     obtain ⟨_, hlen, hcell⟩ := World.cells?_some h1
     obtain ⟨xs, k, _, _, _, hxl, hfs⟩ := DataW.trod_struct he h2
     match xs, hxl, cs', hlen with
     | [y0, y1], _, [v0, v1], _ =>
       have g0 := hfs 0 f0 rfl
       have g1 := hfs 1 f1 rfl
       simp [o0, o1, c0, c1] at g0 g1
       have e0 := hcell 0 (by omega)
       have e1 := hcell 1 (by omega)
       obtain ⟨x, hx', _⟩ := DataW.trod_int u0 g0
       obtain ⟨y, hy', _⟩ := DataW.trod_int u1 g1
       simp only [List.cons.injEq, and_true] at hx' hy'
       subst hx' hy'
       refine ⟨x, y, ?_, ?_⟩
       · rw [← show (a.add (i * 2)).add 0 = (⟨a.block, a.off + 2 * i, none⟩ : Addr) by rw [addr_add a _ hspot]; show Addr.mk _ _ _ = _; congr 1; simp; omega]
         simpa using e0
       · rw [← show (a.add (i * 2)).add 1 = (⟨a.block, a.off + (2 * i + 1), none⟩ : Addr) by rw [addr_add a _ hspot]; show Addr.mk _ _ _ = _; congr 1; simp; omega]
         simpa using e1
   obtain ⟨q, hq⟩ : ∃ q : Nat → Int × Int, ∀ i, i < len → W.cell? ⟨a.block, a.off + 2 * i, none⟩ = some (.int .i64 (q i).1) ∧ W.cell? ⟨a.block, a.off + (2 * i + 1), none⟩ = some (.int .i64 (q i).2) := by
     refine ⟨fun i => if h : i < len then ((hcells i h).choose, (hcells i h).choose_spec.choose) else (0, 0), fun i hi => ?_⟩
     simp only [hi, dif_pos]
     exact (hcells i hi).choose_spec.choose_spec
   refine ⟨some a, len, cap, fun j => if j % 2 = 0 then (q (j / 2)).1 else (q (j / 2)).2, rfl, hm, ⟨hm, .inl hspot⟩, fun j hj => ?_⟩
   have h2 := hq (j / 2) (by omega)
   by_cases hp : j % 2 = 0
   · have e : j = 2 * (j / 2) := by omega
     simp only [hp, if_pos]
     rw [← h2.1]
     congr 2
     omega
   · simp only [hp, if_false]
     rw [← h2.2]
     congr 2
     omega
def HolesAt (W : World) (a : Option Addr) (cap k : Nat) (ha : Nat → Option Addr) (hl hc : Nat → Nat) (hg : Nat → Nat → Int) : Prop := match a with
 | none => k = 0 ∧ cap = 0
 | some a => (cap ≤ maxLen ∧ a.spot = none) ∧ ∀ i, i < k → W.cell? ⟨a.block, a.off + i, none⟩ = some (.slice (ha i) (hl i) (hc i)) ∧ IntsAt W (ha i) (hc i) (2 * hl i) (hg i)
theorem spot_of_cell {u e : TypeId} (hu : P.underlying u = some (.slice e)) {a : Addr} {len cap : Nat} (h : Cell.okWide P W r b0 u (.slice (some a) len cap)) : a.spot = none := by
 unfold Cell.okWide at h
 rw [hu] at h
 unfold Cell.ok at h
 rw [hu] at h
 exact h.2.2.2.1
theorem open_holes {t68 t e : TypeId} {f0 f1 : Field} (h68 : P.underlying t68 = some (.slice t)) (c26 : P.cellsOf t = 1) (ht : P.underlying t = some (.slice e)) (he : P.underlying e = some (.struct #[f0, f1])) (ce : P.cellsOf e = 2) (o0 : f0.offset = 0) (o1 : f1.offset = 1)
   (c0 : P.cellsOf f0.type = 1) (c1 : P.cellsOf f1.type = 1) (u0 : P.underlying f0.type = some (.int .i64)) (u1 : P.underlying f1.type = some (.int .i64)) {v : Value}
   {n0 : Nat} {x0 : DataW H × List MemPlace} (hf : DataW.trod enc P W 0 (fun _ => true) true n0 t68 [v] = some x0) (hok : Cell.okWide P W r b0 t68 v) :
   ∃ a k cap ha hl hc hg, v = .slice a k cap ∧ HolesAt W a cap k ha hl hc hg := by
 rcases Go.Deep.open_slice1 h68 c26 hf with ⟨hcs, _⟩ | ⟨a, len, cap, m, n, V, D, Pl, hcs, _, hl, hm, hmm, _, hx⟩
 · simp only [List.cons.injEq, and_true] at hcs
   subst hcs
   exact ⟨none, 0, 0, fun _ => none, fun _ => 0, fun _ => 0, fun _ _ => 0, rfl, rfl, rfl⟩
 · simp only [List.cons.injEq, and_true] at hcs
   subst hcs
   have hspot := spot_of_cell h68 hok
   have key : ∀ i, ∃ q : Option Addr × Nat × Nat × (Nat → Int), i < len → V i = .slice q.1 q.2.1 q.2.2.1 ∧ IntsAt W q.1 q.2.2.1 (2 * q.2.1) q.2.2.2 := by
     intro i
     by_cases hi : i < len
     · obtain ⟨_, h2⟩ := hx i (by rw [hmm]; simp; omega)
       obtain ⟨a', l', c', g', h3, _, h4⟩ := open_ptsC ht he ce o0 o1 c0 c1 u0 u1 h2
       exact ⟨(a', l', c', g'), fun _ => ⟨h3, h4⟩⟩
     · exact ⟨(none, 0, 0, fun _ => 0), fun h => absurd h hi⟩
   obtain ⟨q, hq⟩ : ∃ q : Nat → Option Addr × Nat × Nat × (Nat → Int), ∀ i, i < len → V i = .slice (q i).1 (q i).2.1 (q i).2.2.1 ∧ IntsAt W (q i).1 (q i).2.2.1 (2 * (q i).2.1) (q i).2.2.2 :=
     ⟨fun i => (key i).choose, fun i hi => (key i).choose_spec hi⟩
   refine ⟨some a, len, cap, fun i => (q i).1, fun i => (q i).2.1, fun i => (q i).2.2.1, fun i => (q i).2.2.2, rfl, ⟨hm, hspot⟩, fun i hi => ⟨?_, (hq i hi).2⟩⟩
   obtain ⟨h1, _⟩ := hx i (by rw [hmm]; simp; omega)
   rw [(hq i hi).1, addr_add a _ hspot] at h1
   exact h1
theorem open_poly {t70 t68 t e : TypeId} {p0 p1 f0 f1 : Field} (h70 : P.underlying t70 = some (.struct #[p0, p1])) (hct : P.cellTypes P.depth t70 = some [t, t68]) (c70 : P.cellsOf t70 = 2) (p0o : p0.offset = 0) (p1o : p1.offset = 1) (p0t : p0.type = t) (p1t : p1.type = t68)
   (h68 : P.underlying t68 = some (.slice t)) (c26 : P.cellsOf t = 1) (c68 : P.cellsOf t68 = 1) (ht : P.underlying t = some (.slice e)) (he : P.underlying e = some (.struct #[f0, f1])) (ce : P.cellsOf e = 2) (o0 : f0.offset = 0) (o1 : f1.offset = 1)
   (c0 : P.cellsOf f0.type = 1) (c1 : P.cellsOf f1.type = 1) (u0 : P.underlying f0.type = some (.int .i64)) (u1 : P.underlying f1.type = some (.int .i64)) {v : Value} {d : DataW H} {ps : List MemPlace}
   (hv : Value.okWide P W r b0 t70 v) (hd : DataW.Trod enc P W 0 (fun _ => true) true t70 v d ps) :
   ∃ a len cap g ah k kcap ha hl hc hg, v = .agg #[.slice a len cap, .slice ah k kcap] ∧ IntsAt W a cap (2 * len) g ∧ HolesAt W ah kcap k ha hl hc hg := by
 have key : ∃ cs, v = .agg cs ∧ cs.size = P.cellsOf t70 ∧ Row.okWide P W r b0 t70 cs := by
   unfold Value.okWide at hv
   rw [h70] at hv; exact hv
 obtain ⟨cs, rfl, hsz, ts', hts', _, hcell⟩ := key
 rw [hct] at hts'
 simp only [Option.some.injEq] at hts'
 subst hts'
 rw [c70] at hsz
 obtain ⟨fuel, hf⟩ := hd
 obtain ⟨cl⟩ := cs
 match cl, hsz with
 | [x0, x1], _ =>
   obtain ⟨y0, y1, n, _, _, g0, g1⟩ := trod_struct2 h70 hf
   subst p0t p1t
   have g0' : DataW.trod enc P W 0 (fun _ => true) true n p0.type [x0] = some y0 := by simpa [p0o, c26, Value.cells] using g0
   have g1' : DataW.trod enc P W 0 (fun _ => true) true n p1.type [x1] = some y1 := by simpa [p1o, c68, Value.cells] using g1
   obtain ⟨u, hu, hok⟩ := hcell 1 x1 rfl
   simp only [List.length_cons, List.length_nil, Nat.reduceAdd, Nat.reduceMod, List.getElem?_cons_succ, List.getElem?_cons_zero, Option.some.injEq] at hu
   subst hu
   obtain ⟨a, len, cap, g, rfl, _, hI⟩ := open_ptsC ht he ce o0 o1 c0 c1 u0 u1 g0'
   obtain ⟨ah, k, kcap, ha, hl, hc, hg, rfl, hH⟩ := open_holes h68 c26 ht he ce o0 o1 c0 c1 u0 u1 g1' hok
   exact ⟨a, len, cap, g, ah, k, kcap, ha, hl, hc, hg, rfl, hI, hH⟩
end
def HK (W : World) (ρ : Rho) (K : Nat) (L : Heap) : Prop := ∀ n o, look L n = some o → n < K ∧ o.rw = false ∧ o.c.bd (· < K) ∧ OSat W ρ o (ρ n)
theorem HK.nil {W : World} {ρ : Rho} {K : Nat} : HK W ρ K [] := fun _ _ h => by cases h
theorem HK.cons {W : World} {ρ : Rho} {K n : Nat} {o : Ob} {L : Heap} (h1 : n < K) (h2 : o.rw = false) (h3 : o.c.bd (· < K)) (h4 : OSat W ρ o (ρ n)) (h : HK W ρ K L) : HK W ρ K ((n, o) :: L) := fun m o' hm => by
 rw [look_cons] at hm
 split at hm
 · rename_i e; subst e; cases hm; exact ⟨h1, h2, h3, h4⟩
 · exact h m o' hm
def holeL (b i : Nat) (hl : Nat → Nat) (hg : Nat → Nat → Int) : Nat → Heap
 | 0 => []
 | k + 1 => (b + 1 + i, ⟨false, 28, .ints .i64 (2 * hl i) (hg i), 0⟩) :: holeL b (i + 1) hl hg k
def holeS (b i : Nat) (hl : Nat → Nat) : Nat → List SV
 | 0 => []
 | k + 1 => .slcc (b + 1 + i) (hl i) :: holeS b (i + 1) hl k
theorem holeS_len (b : Nat) (hl : Nat → Nat) : ∀ k i, (holeS b i hl k).length = k
 | 0, _ => rfl
 | k + 1, i => by simp [holeS, holeS_len b hl k]
theorem holeS_get (b : Nat) (hl : Nat → Nat) : ∀ k i j, j < k → (holeS b i hl k)[j]? = some (.slcc (b + 1 + (i + j)) (hl (i + j)))
 | 0, _, _, h => by omega
 | k + 1, i, 0, _ => rfl
 | k + 1, i, j + 1, h => by
   have := holeS_get b hl k (i + 1) j (by omega)
   simp only [holeS, List.getElem?_cons_succ, this]
   rw [show i + 1 + j = i + (j + 1) by omega]
section
variable {W : World} {ρ : Rho} {K b : Nat} {a : Option Addr} {cap k : Nat} {ha : Nat → Option Addr} {hl hc : Nat → Nat} {hg : Nat → Nat → Int}
theorem HolesAt.hole (h : HolesAt W a cap k ha hl hc hg) {i : Nat} (hi : i < k) : IntsAt W (ha i) (hc i) (2 * hl i) (hg i) := by
 cases a with
 | none => have := h.1; omega
 | some a => exact (h.2 i hi).2
theorem HolesAt.hk (h : HolesAt W a cap k ha hl hc hg) (hK : b + 1 + k ≤ K) (hρ : ∀ i, i < k → ρ (b + 1 + i) = rhoOf (ha i) (hc i)) : ∀ j i, i + j = k → HK W ρ K (holeL b i hl hg j)
 | 0, _, _ => HK.nil
 | j + 1, i, hij => HK.cons (by omega) rfl (fun _ _ => trivial) (by rw [hρ i (by omega)]; exact osat_ints (h.hole (by omega))) (h.hk hK hρ j (i + 1) (by omega))
theorem HolesAt.row (h : HolesAt W a cap k ha hl hc hg) (hρ : ∀ i, i < k → ρ (b + 1 + i) = rhoOf (ha i) (hc i)) : OSat W ρ ⟨false, 26, .cells (holeS b 0 hl k), 0⟩ (rhoOf a cap) := by
 cases a with
 | none => show (holeS b 0 hl k).length = 0; rw [holeS_len]; exact h.1
 | some a =>
   obtain ⟨⟨h1, h2⟩, h3⟩ := h
   refine ⟨fun i hi => ?_, (nomatch ·), fun _ => ?_⟩
   · have hi' : i < k := by rw [← holeS_len b hl k 0]; exact hi
     have hg := holeS_get b hl k 0 i hi'
     rw [Nat.zero_add] at hg
     simp only [Cont.at, getL_eq, hg, Option.getD_some]
     rw [den_slcc (hρ i hi') (h3 i hi').2]
     exact (h3 i hi').1
   · rw [h2]; exact h1
theorem HolesAt.gen (h : HolesAt W a cap k ha hl hc hg) : OSat W ρ ⟨false, 26, .gen k fun i => .sla (ha i) (hl i) (hc i), 0⟩ (rhoOf a cap) := by
 cases a with
 | none => exact h.1
 | some a =>
   obtain ⟨⟨h1, h2⟩, h3⟩ := h
   refine ⟨fun i hi => (h3 i hi).1, (nomatch ·), fun _ => ?_⟩
   rw [h2]; exact h1
theorem HolesAt.den (h : HolesAt W a cap k ha hl hc hg) {n : Nm} (hρ : ρ n = rhoOf a cap) : (SV.slcc n k).den ρ = .slice a k cap := by
 cases a with
 | none =>
   obtain ⟨rfl, rfl⟩ := h
   simp [SV.den, Rho.addrC, Rho.cap, hρ, rhoOf]
 | some a =>
   obtain ⟨⟨h1, h2⟩, _⟩ := h
   obtain ⟨b, o, s⟩ := a
   simp only at h2
   subst h2
   simp [SV.den, Rho.addrC, Rho.cap, hρ, rhoOf, Rho.sp_le h1, Rho.cp_le h1]
theorem holeS_bd : ∀ k i, b + 1 + (i + k) ≤ K → bdL (· < K) (holeS b i hl k)
 | 0, _, _ => trivial
 | k + 1, i, h => ⟨by show b + 1 + i < K; omega, holeS_bd k (i + 1) (by omega)⟩
end
end Go.Sx
