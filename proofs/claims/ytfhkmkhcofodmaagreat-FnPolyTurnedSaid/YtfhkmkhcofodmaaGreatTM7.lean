/- Part of a proof: ZTb. -/
import Derived.Test.YtfhkmkhcofodmaaGreatTM6
namespace Go.Proofs.Tryz.Sx
open Go Go.Sx Go.Proofs Go.Fl Go.Geo
set_option maxRecDepth 100000
noncomputable def pSh0C : List SV → RdM
 | [.agg [.slcc n len, .slcc h 0]] => .read n fun o0 => (match intsFrom .i64 o0.c with
   | some (m0, g) => .read h fun o1 => (match hol0 o1.c with
   | some _ => .ret ⟨[.agg [.slcc 0 len, .slcc 1 0]], [(0, ⟨false, 28, .ints .i64 m0 g, 0⟩), (1, ⟨false, 26, .cells [], 0⟩)], .agg [.int .i64 3, .slcc 2 len, .nils], [], [(2, ⟨true, 23, .ints .i64 (2 * len) g, 2⟩)], some (m0 = 2 * len ∧ len ≤ 1000000)⟩
   | none => .fail)
   | none => .fail)
 | _ => .fail
theorem vc_pSh0 (len : Nat) (_ : Unit)  (g : Nat → Int) : runA GPS1 2 [(3, .unr [⟨Nat, fun _ => ⟨26, [(2, .ptr 4 0), (3, .ptr 2 0), (11, .slcc 1 0), (12, .int .i64 0), (13, .int .i64 0)], [(1, ⟨false, 26, .cells [], 0⟩), (2, ⟨true, 39, .cells [.int .i64 3, .slcc 3 len, .nils], 0⟩), (3, ⟨true, 23, .ints .i64 (2 * len) g, 2⟩), (4, ⟨true, 39, .cells [.int .i64 0, .nils, .nils], 0⟩)], 5⟩, fun _ => True, fun _ => 0⟩])] [] (codeOf Tryz.f48) (init Tryz.f48.ntmps [.agg [.slcc 0 len, .slcc 1 0]] [(0, ⟨false, 28, .ints .i64 (2 * len) g, 0⟩), (1, ⟨false, 26, .cells [], 0⟩)] 2) (endK GPS1.E.T Tryz.f48.results.toList fun S v => postP 2 ⟨[.agg [.slcc 0 len, .slcc 1 0]], [(0, ⟨false, 28, .ints .i64 (2 * len) g, 0⟩), (1, ⟨false, 26, .cells [], 0⟩)], .agg [.int .i64 3, .slcc 2 len, .nils], [], [(2, ⟨true, 23, .ints .i64 (2 * len) g, 2⟩)], some (2 * len = 2 * len ∧ len ≤ 1000000)⟩ S v) = (
(2 * len = 2 * len ∧ len ≤ 1000000) ∧ (∃ (_ : Nat), True ∧ ((True ∧ 0 = 0) ∧ (True ∧ 0 = 0) ∧ (True ∧ 0 = 0) ∧ (0 : Int) = 0 ∧ (0 : Int) = 0 ∧ True) ∧ True ∧ True
∧ True ∧ (39 = 39 ∧ 0 = 0 ∧ (3 : Int) = 3 ∧ (True ∧ len = len) ∧ True ∧ True) ∧ True ∧ (23 = 23 ∧ 2 = 2 ∧ 2 * len ≤ 2 * len ∧ ∀ (i : Nat), i < 2 * len → g
 i = g i) ∧ True ∧ (39 = 39 ∧ 0 = 0 ∧ (0 : Int) = 0 ∧ True ∧ True ∧ True) ∧ True) ∧ (∀ (_ : Nat), True → (false = true → (((0 : Int) ≤ 0 ∧ (0 : Int) < 0) ∧ 1 ≤ 0) ∧ False) ∧
(false = false → ((3 : Int) = 3 ∧ (True ∧ len = len) ∧ True ∧ True) ∧ True ∧ (23 = 23 ∧ 2 = 2 ∧ 2 * len ≤ 2 * len ∧ ∀ (i : Nat), i < 2 * len → g i = g i) ∧ True)) ∧ True) := by kernel_rfl
theorem pSh0 : ConOk Tryz.prog 48 (conR pSh0C) := by
 refine con_of_vc gPS1 Tryz.func48 rfl (by kernel_rfl) fun args => ?_
 unfold pSh0C
 split
 · rename_i n len h
   intro o0
   show RdM.All _ (match intsFrom .i64 o0.c with | some (m, g) => _ | none => _) _
   split
   · rename_i m0 g hm0
     intro o1
     show RdM.All _ (match hol0 o1.c with | some u => _ | none => _) _
     split
     · rename_i u hm1
       intro ho
       replace ho : m0 = 2 * len ∧ len ≤ 1000000 := ho
       obtain ⟨hsz0, ho⟩ := ho
       subst hsz0
       refine ⟨?_, _, _, (vc_pSh0 len u g).mpr ?_⟩
       · refine okFlag_mk rfl ⟨?_, ⟨trivial, (contR_ints hm0).1, ⟨trivial, hol0_spec hm1, trivial⟩⟩⟩
         simp [eqvRL, eqvR, sgSig, fsts, nth, sameN_self]
       · simp [ho]
     · trivial
   · trivial
 · trivial
noncomputable def pSh1C : List SV → RdM
 | [.agg [.slcc n len, .slcc h 1]] => .read n fun o0 => (match intsFrom .i64 o0.c with
   | some (m0, g) => .read h fun o1 => (match hol1 o1.c with
   | some (q0, l0) => .read q0 fun o2 => (match intsFrom .i64 o2.c with
   | some (m2, g0) => .ret ⟨[.agg [.slcc 0 len, .slcc 1 1]], [(0, ⟨false, 28, .ints .i64 m0 g, 0⟩), (1, ⟨false, 26, .cells [.slcc 2 l0], 0⟩), (2, ⟨false, 28, .ints .i64 m2 g0, 0⟩)], .agg [.int .i64 3, .slcc 3 len, .slcc 4 1], [], [(3, ⟨true, 23, .ints .i64 (2 * len) g, 2⟩), (4, ⟨true, 25, .cells [.slcc 5 l0], 1⟩), (5, ⟨true, 23, .ints .i64 (2 * l0) g0, 2⟩)], some (m0 = 2 * len ∧ m2 = 2 * l0 ∧ len ≤ 1000000 ∧ l0 ≤ 1000000)⟩
   | none => .fail)
   | none => .fail)
   | none => .fail)
 | _ => .fail
theorem vc_pSh1 (len : Nat) (l0 : Nat) (_ : Nm)  (g : Nat → Int) (g0 : Nat → Int) : runA GPS1 3 [(3, .unr [⟨Nat, fun _ => ⟨26, [(2, .ptr 5 0), (3, .ptr 3 0), (11, .slcc 1 1), (12, .int .i64 1), (13, .int .i64 0)], [(1, ⟨false, 26, .cells [.slcc 2 l0], 0⟩), (2, ⟨false, 28, .ints .i64 (2 * l0) g0, 0⟩), (3, ⟨true, 39, .cells [.int .i64 3, .slcc 4 len, .nils], 0⟩), (4, ⟨true, 23, .ints .i64 (2 * len) g, 2⟩), (5, ⟨true, 39, .cells [.int .i64 0, .nils, .nils], 0⟩)], 6⟩, fun _ => True, fun _ => 0⟩, ⟨Nat, fun _ => ⟨26, [(2, .ptr 5 0), (3, .ptr 3 0), (11, .slcc 1 1), (12, .int .i64 1), (13, .int .i64 1)], [(1, ⟨false, 26, .cells [.slcc 2 l0], 0⟩), (2, ⟨false, 28, .ints .i64 (2 * l0) g0, 0⟩), (3, ⟨true, 39, .cells [.int .i64 3, .slcc 4 len, .slcc 6 1], 0⟩), (4, ⟨true, 23, .ints .i64 (2 * len) g, 2⟩), (5, ⟨true, 39, .cells [.int .i64 0, .nils, .nils], 0⟩), (6, ⟨true, 25, .cells [.slcc 7 l0], 1⟩), (7, ⟨true, 23, .ints .i64 (2 * l0) g0, 2⟩)], 8⟩, fun _ => True, fun _ => 0⟩])] [] (codeOf Tryz.f48) (init Tryz.f48.ntmps [.agg [.slcc 0 len, .slcc 1 1]] [(0, ⟨false, 28, .ints .i64 (2 * len) g, 0⟩), (1, ⟨false, 26, .cells [.slcc 2 l0], 0⟩), (2, ⟨false, 28, .ints .i64 (2 * l0) g0, 0⟩)] 3) (endK GPS1.E.T Tryz.f48.results.toList fun S v => postP 3 ⟨[.agg [.slcc 0 len, .slcc 1 1]], [(0, ⟨false, 28, .ints .i64 (2 * len) g, 0⟩), (1, ⟨false, 26, .cells [.slcc 2 l0], 0⟩), (2, ⟨false, 28, .ints .i64 (2 * l0) g0, 0⟩)], .agg [.int .i64 3, .slcc 3 len, .slcc 4 1], [], [(3, ⟨true, 23, .ints .i64 (2 * len) g, 2⟩), (4, ⟨true, 25, .cells [.slcc 5 l0], 1⟩), (5, ⟨true, 23, .ints .i64 (2 * l0) g0, 2⟩)], some (2 * len = 2 * len ∧ 2 * l0 = 2 * l0 ∧ len ≤ 1000000 ∧ l0 ≤ 1000000)⟩ S v) = (
(2 * len = 2 * len ∧ len ≤ 1000000) ∧ (∃ (_ : Nat), True ∧ ((True ∧ 0 = 0) ∧ (True ∧ 0 = 0) ∧ (True ∧ 1 = 1) ∧ (1 : Int) = 1 ∧ (0 : Int) = 0 ∧ True) ∧ True ∧
((True ∧ l0 = l0) ∧ True) ∧ True ∧ (2 * l0 ≤ 2 * l0 ∧ ∀ (i : Nat), i < 2 * l0 → g0 i = g0 i) ∧ True ∧ (39 = 39 ∧ 0 = 0 ∧ (3 : Int) = 3 ∧ (True ∧ len = len) ∧ True ∧ True) ∧ True ∧ (23 = 23 ∧ 2 = 2 ∧ 2 * len ≤ 2 * len ∧ ∀ (i : Nat), i < 2 * len → g i = g i) ∧ True ∧ (39 = 39 ∧ 0 = 0 ∧ (0 : Int) = 0 ∧ True ∧ True ∧ True) ∧ True) ∧ (∀ (_ :
 Nat), True → (true = true → (((0 : Int) ≤ 0 ∧ (0 : Int) < 1) ∧ True) ∧ (2 * l0 = 2 * l0 ∧ l0 ≤ 1000000) ∧ true = true ∧ ∃ (_ : Nat), True ∧ ((True ∧ 0 = 0) ∧ (True ∧ 0 = 0) ∧
(True ∧ 1 = 1) ∧ (1 : Int) = 1 ∧ (1 : Int) = 1 ∧ True) ∧ True ∧ ((True ∧ l0 = l0) ∧ True) ∧ True ∧ (2 * l0 ≤ 2 * l0 ∧ ∀ (i : Nat), i < 2 * l0 → g0 i = g0 i) ∧ True ∧ (39 = 39 ∧
0 = 0 ∧ (3 : Int) = 3 ∧ (True ∧ len = len) ∧ (True ∧ 1 = 1) ∧ True) ∧ True ∧ (23 = 23 ∧ 2 = 2 ∧ 2 * len ≤ 2 * len ∧ ∀ (i : Nat), i < 2 * len → g i = g i)
∧ True ∧ (39 = 39 ∧ 0 = 0 ∧ (0 : Int) = 0 ∧ True ∧ True ∧ True) ∧ True ∧ (25 = 25 ∧ 1 = 1 ∧ (True ∧ l0 = l0) ∧ True) ∧ True ∧ (23 = 23 ∧ 2 = 2 ∧
2 * l0 ≤ 2 * l0 ∧ ∀ (i : Nat), i < 2 * l0 → g0 i = g0 i) ∧ True) ∧ (true = false → ((3 : Int) = 3 ∧ (True ∧ len = len) ∧ 1 = 0 ∧ True) ∧ True ∧ (23 = 23 ∧ 2 = 2 ∧ 2 * len ≤ 2 * len ∧ ∀ (i : Nat), i < 2 * len → g i = g i) ∧ True ∧ List.length [SV.slcc 5 l0] = 0 ∧ True ∧ 2 * l0 = 0 ∧ True)) ∧ (∀ (_ : Nat), True → (false = true → (((0 : Int) ≤ 1 ∧ (1 :
 Int) < (1 : Int)) ∧ True) ∧ False) ∧ (false = false → ((3 : Int) = 3 ∧ (True ∧ len = len) ∧ (True ∧ 1 = 1) ∧ True) ∧ True ∧ (23 = 23 ∧ 2 = 2 ∧ 2 * len ≤ 2 * len ∧ ∀ (i : Nat), i
< 2 * len → g i = g i) ∧ True ∧ (25 = 25 ∧ 1 = 1 ∧ (True ∧ l0 = l0) ∧ True) ∧ True ∧ (23 = 23 ∧ 2 = 2 ∧ 2 * l0 ≤ 2 * l0 ∧ ∀ (i : Nat), i < 2 * l0 → g0 i =
 g0 i) ∧ True)) ∧ True) := by kernel_rfl
theorem pSh1 : ConOk Tryz.prog 48 (conR pSh1C) := by
 refine con_of_vc gPS1 Tryz.func48 rfl (by kernel_rfl) fun args => ?_
 unfold pSh1C
 split
 · rename_i n len h
   intro o0
   show RdM.All _ (match intsFrom .i64 o0.c with | some (m, g) => _ | none => _) _
   split
   · rename_i m0 g hm0
     intro o1
     show RdM.All _ (match hol1 o1.c with | some (q0, l0) => _ | none => _) _
     split
     · rename_i q0 l0 hm1
       intro o2
       show RdM.All _ (match intsFrom .i64 o2.c with | some (m, g) => _ | none => _) _
       split
       · rename_i m2 g0 hm2
         intro ho
         replace ho : m0 = 2 * len ∧ m2 = 2 * l0 ∧ len ≤ 1000000 ∧ l0 ≤ 1000000 := ho
         obtain ⟨hsz0, hsz2, ho⟩ := ho
         subst hsz0
         subst hsz2
         refine ⟨?_, _, _, (vc_pSh1 len l0 q0 g g0).mpr ?_⟩
         · refine okFlag_mk rfl ⟨?_, ⟨trivial, (contR_ints hm0).1, ⟨trivial, hol1_spec hm1 (by simp [sgSig, fsts, nth, sameN_self]), ⟨trivial, (contR_ints hm2).1, trivial⟩⟩⟩⟩
           simp [eqvRL, eqvR, sgSig, fsts, nth, sameN_self]
         · simp [ho]
       · trivial
     · trivial
   · trivial
 · trivial
noncomputable def pSh2C : List SV → RdM
 | [.agg [.slcc n len, .slcc h 2]] => .read n fun o0 => (match intsFrom .i64 o0.c with
   | some (m0, g) => .read h fun o1 => (match hol2 o1.c with
   | some (q0, l0, q1, l1) => .read q0 fun o2 => (match intsFrom .i64 o2.c with
   | some (m2, g0) => .read q1 fun o3 => (match intsFrom .i64 o3.c with
   | some (m3, g1) => .ret ⟨[.agg [.slcc 0 len, .slcc 1 2]], [(0, ⟨false, 28, .ints .i64 m0 g, 0⟩), (1, ⟨false, 26, .cells [.slcc 2 l0, .slcc 3 l1], 0⟩), (2, ⟨false, 28, .ints .i64 m2 g0, 0⟩), (3, ⟨false, 28, .ints .i64 m3 g1, 0⟩)], .agg [.int .i64 3, .slcc 4 len, .slcc 5 2], [], [(4, ⟨true, 23, .ints .i64 (2 * len) g, 2⟩), (5, ⟨true, 25, .cells [.slcc 6 l0, .slcc 7 l1], 1⟩), (6, ⟨true, 23, .ints .i64 (2 * l0) g0, 2⟩), (7, ⟨true, 23, .ints .i64 (2 * l1) g1, 2⟩)], some (m0 = 2 * len ∧ m2 = 2 * l0 ∧ m3 = 2 * l1 ∧ len ≤ 1000000 ∧ l0 ≤ 1000000 ∧ l1 ≤ 1000000)⟩
   | none => .fail)
   | none => .fail)
   | none => .fail)
   | none => .fail)
 | _ => .fail
theorem vc_pSh2 (len : Nat) (l0 l1 : Nat) (_ _ : Nm)  (g : Nat → Int) (g0 : Nat → Int) (g1 : Nat → Int) : runA GPS1 4 [(3, .unr [⟨Nat, fun _ => ⟨26, [(2, .ptr 6 0), (3, .ptr 4 0), (11, .slcc 1 2), (12, .int .i64 2), (13, .int .i64 0)], [(1, ⟨false, 26, .cells [.slcc 2 l0, .slcc 3 l1], 0⟩), (2, ⟨false, 28, .ints .i64 (2 * l0) g0, 0⟩), (3, ⟨false, 28, .ints .i64 (2 * l1) g1, 0⟩), (4, ⟨true, 39, .cells [.int .i64 3, .slcc 5 len, .nils], 0⟩), (5, ⟨true, 23, .ints .i64 (2 * len) g, 2⟩), (6, ⟨true, 39, .cells [.int .i64 0, .nils, .nils], 0⟩)], 7⟩, fun _ => True, fun _ => 0⟩, ⟨Nat, fun _ => ⟨26, [(2, .ptr 6 0), (3, .ptr 4 0), (11, .slcc 1 2), (12, .int .i64 2), (13, .int .i64 1)], [(1, ⟨false, 26, .cells [.slcc 2 l0, .slcc 3 l1], 0⟩), (2, ⟨false, 28, .ints .i64 (2 * l0) g0, 0⟩), (3, ⟨false, 28, .ints .i64 (2 * l1) g1, 0⟩), (4, ⟨true, 39, .cells [.int .i64 3, .slcc 5 len, .slcc 7 1], 0⟩), (5, ⟨true, 23, .ints .i64 (2 * len) g, 2⟩), (6, ⟨true, 39, .cells [.int .i64 0, .nils, .nils], 0⟩), (7, ⟨true, 25, .cells [.slcc 8 l0], 1⟩), (8, ⟨true, 23, .ints .i64 (2 * l0) g0, 2⟩)], 9⟩, fun _ => True, fun _ => 0⟩, ⟨Nat, fun _ => ⟨26, [(2, .ptr 6 0), (3, .ptr 4 0), (11, .slcc 1 2), (12, .int .i64 2), (13, .int .i64 2)], [(1, ⟨false, 26, .cells [.slcc 2 l0, .slcc 3 l1], 0⟩), (2, ⟨false, 28, .ints .i64 (2 * l0) g0, 0⟩), (3, ⟨false, 28, .ints .i64 (2 * l1) g1, 0⟩), (4, ⟨true, 39, .cells [.int .i64 3, .slcc 5 len, .slcc 7 2], 0⟩), (5, ⟨true, 23, .ints .i64 (2 * len) g, 2⟩), (6, ⟨true, 39, .cells [.int .i64 0, .nils, .nils], 0⟩), (7, ⟨true, 25, .cells [.slcc 8 l0, .slcc 9 l1], 1⟩), (8, ⟨true, 23, .ints .i64 (2 * l0) g0, 2⟩), (9, ⟨true, 23, .ints .i64 (2 * l1) g1, 2⟩)], 10⟩, fun _ => True, fun _ => 0⟩])] [] (codeOf Tryz.f48) (init Tryz.f48.ntmps [.agg [.slcc 0 len, .slcc 1 2]] [(0, ⟨false, 28, .ints .i64 (2 * len) g, 0⟩), (1, ⟨false, 26, .cells [.slcc 2 l0, .slcc 3 l1], 0⟩), (2, ⟨false, 28, .ints .i64 (2 * l0) g0, 0⟩), (3, ⟨false, 28, .ints .i64 (2 * l1) g1, 0⟩)] 4) (endK GPS1.E.T Tryz.f48.results.toList fun S v => postP 4 ⟨[.agg [.slcc 0 len, .slcc 1 2]], [(0, ⟨false, 28, .ints .i64 (2 * len) g, 0⟩), (1, ⟨false, 26, .cells [.slcc 2 l0, .slcc 3 l1], 0⟩), (2, ⟨false, 28, .ints .i64 (2 * l0) g0, 0⟩), (3, ⟨false, 28, .ints .i64 (2 * l1) g1, 0⟩)], .agg [.int .i64 3, .slcc 4 len, .slcc 5 2], [], [(4, ⟨true, 23, .ints .i64 (2 * len) g, 2⟩), (5, ⟨true, 25, .cells [.slcc 6 l0, .slcc 7 l1], 1⟩), (6, ⟨true, 23, .ints .i64 (2 * l0) g0, 2⟩), (7, ⟨true, 23, .ints .i64 (2 * l1) g1, 2⟩)], some (2 * len = 2 * len ∧ 2 * l0 = 2 * l0 ∧ 2 * l1 = 2 * l1 ∧ len ≤ 1000000 ∧ l0 ≤ 1000000 ∧ l1 ≤ 1000000)⟩ S v) = (
(2 * len = 2 * len ∧ len ≤ 1000000) ∧ (∃ (_ : Nat), True ∧ ((True ∧ 0 = 0) ∧ (True ∧ 0 = 0) ∧ (True ∧ 2 = 2) ∧ (2 : Int) = 2 ∧ (0 : Int) = 0 ∧ True) ∧ True ∧
((True ∧ l0 = l0) ∧ (True ∧ l1 = l1) ∧ True) ∧ True ∧ (2 * l0 ≤ 2 * l0 ∧ ∀ (i : Nat), i < 2 * l0 → g0 i = g0 i) ∧ True ∧ (2 * l1 ≤ 2 * l1 ∧ ∀ (i : Nat), i < 2 * l1 → g1 i = g1 i) ∧ True ∧ (39 =
39 ∧ 0 = 0 ∧ (3 : Int) = 3 ∧ (True ∧ len = len) ∧ True ∧ True) ∧ True ∧ (23 = 23 ∧ 2 = 2 ∧ 2 * len ≤ 2 * len ∧ ∀ (i : Nat), i < 2 * len → g i = g i) ∧ True ∧ (39 = 39 ∧ 0 = 0 ∧ (0 : Int) = 0 ∧ True ∧ True ∧ True) ∧ True) ∧ (∀ (_ : Nat), True → (true = true → (((0 : Int) ≤ 0 ∧ (0 : Int) < 2) ∧ True) ∧ (2 * l0 = 2 * l0 ∧ l0 ≤ 1000000) ∧ true = true ∧ ∃ (_ : Nat), True ∧ ((True ∧ 0 = 0) ∧ (True ∧ 0 = 0) ∧ (True ∧ 2 = 2) ∧ (2 : Int) = 2 ∧ (1 : Int) = 1 ∧ True) ∧ True ∧ ((True ∧ l0 = l0) ∧ (True ∧ l1 = l1) ∧ True)
∧ True ∧ (2 * l0 ≤ 2 * l0 ∧ ∀ (i : Nat), i < 2 * l0 → g0 i = g0 i) ∧ True ∧ (2 * l1 ≤ 2 * l1 ∧ ∀ (i : Nat), i < 2 * l1 → g1 i = g1 i) ∧ True ∧ (39 = 39 ∧ 0 = 0 ∧ (3 :
 Int) = (3 : Int) ∧ (True ∧ len = len) ∧ (True ∧ 1 = 1) ∧ True) ∧ True ∧ (23 = 23 ∧ 2 = 2 ∧ 2 * len ≤ 2 * len ∧ ∀ (i : Nat), i < 2 * len → g i = g i) ∧ True ∧ (39 = 39 ∧ 0 = 0 ∧ (0 : Int) = 0 ∧ True ∧ True ∧ True) ∧ True ∧ (25 = 25 ∧ 1 = 1 ∧ (True ∧ l0 = l0) ∧ True) ∧ True ∧ (23 = 23 ∧ 2 = 2 ∧ 2 * l0 ≤ 2 *
 l0 ∧ ∀ (i : Nat), i < 2 * l0 → g0 i = g0 i) ∧ True) ∧ (true = false → ((3 : Int) = 3 ∧ (True ∧ len = len) ∧ 2 = 0 ∧ True) ∧ True ∧ (23 = 23 ∧ 2 = 2 ∧ 2 * len ≤ 2 * len ∧
∀ (i : Nat), i < 2 * len → g i = g i) ∧ True ∧ List.length [SV.slcc 6 l0, SV.slcc 7 l1] = 0 ∧ True ∧ 2 * l0 = 0 ∧ True ∧ 2 * l1 = 0 ∧ True)) ∧ (∀ (_ : Nat), True → (true = true → (((0 :
 Int) ≤ (1 : Int) ∧ (1 : Int) < 2) ∧ True) ∧ (2 * l1 = 2 * l1 ∧ l1 ≤ 1000000) ∧ (List.length [SV.slcc 8 l0] = 1 ∧ 48 ≤ 140737488355328 ∧ 2 ≤ 9223372036854775807) ∧ true =
 true ∧ ∃ (_ : Nat), True ∧ ((True ∧ 0 = 0) ∧ (True ∧ 0 = 0) ∧ (True ∧ 2 = 2) ∧ (2 : Int) = 2 ∧ (2 : Int) = 2 ∧ True) ∧ True ∧ ((True ∧ l0 = l0) ∧ (True ∧ l1 = l1) ∧ True) ∧ True ∧ (2 * l0 ≤ 2 * l0 ∧ ∀ (i : Nat), i < 2 * l0 → g0 i = g0 i) ∧ True ∧ (2 * l1 ≤ 2 * l1 ∧ ∀ (i : Nat), i < 2 * l1 → g1 i = g1 i) ∧ True ∧ (39 = 39 ∧ 0 = 0 ∧ (3 : Int) = 3 ∧
(True ∧ len = len) ∧ (True ∧ 2 = 2) ∧ True) ∧ True ∧ (23 = 23 ∧ 2 = 2 ∧ 2 * len ≤ 2 * len ∧ ∀ (i : Nat), i < 2 * len → g i = g i) ∧ True ∧ (39 = 39 ∧ 0 =
0 ∧ (0 : Int) = 0 ∧ True ∧ True ∧ True) ∧ True ∧ (25 = 25 ∧ 1 = 1 ∧ (True ∧ l0 = l0) ∧ (True ∧ l1 = l1) ∧ True) ∧ True ∧ (23 = 23 ∧ 2 = 2 ∧ 2 * l0 ≤ 2 *
 l0 ∧ ∀ (i : Nat), i < 2 * l0 → g0 i = g0 i) ∧ True ∧ (23 = 23 ∧ 2 = 2 ∧ 2 * l1 ≤ 2 * l1 ∧ ∀ (i : Nat), i < 2 * l1 → g1 i = g1 i) ∧ True) ∧ (true = false → ((3 : Int) = 3 ∧ (True
∧ len = len) ∧ (True ∧ 1 = 2) ∧ True) ∧ True ∧ (23 = 23 ∧ 2 = 2 ∧ 2 * len ≤ 2 * len ∧ ∀ (i : Nat), i < 2 * len → g i = g i) ∧ True ∧ (25 = 25 ∧ 1 = 1 ∧ (True ∧ l0 = l0) ∧ False) ∧ True ∧ (23 = 23 ∧ 2 = 2 ∧ 2 * l0 ≤ 2 * l0 ∧ ∀ (i : Nat), i < 2 * l0 → g0 i = g0 i) ∧ True ∧ 2 * l1 = 0 ∧ True)) ∧ (∀ (_ : Nat), True → (false =
 true → (((0 : Int) ≤ 2 ∧ (2 : Int) < 2) ∧ True) ∧ False) ∧ (false = false → ((3 : Int) = 3 ∧ (True ∧ len = len) ∧ (True ∧ 2 = 2) ∧ True) ∧ True ∧ (23 = 23 ∧ 2 = 2 ∧ 2 *
 len ≤ 2 * len ∧ ∀ (i : Nat), i < 2 * len → g i = g i) ∧ True ∧ (25 = 25 ∧ 1 = 1 ∧ (True ∧ l0 = l0) ∧ (True ∧ l1 = l1) ∧ True) ∧ True ∧ (23 = 23 ∧ 2 = 2 ∧ 2 * l0 ≤
2 * l0 ∧ ∀ (i : Nat), i < 2 * l0 → g0 i = g0 i) ∧ True ∧ (23 = 23 ∧ 2 = 2 ∧ 2 * l1 ≤ 2 * l1 ∧ ∀ (i : Nat), i < 2 * l1 → g1 i = g1 i) ∧ True)) ∧ True) := by kernel_rfl
theorem pSh2 : ConOk Tryz.prog 48 (conR pSh2C) := by
 refine con_of_vc gPS1 Tryz.func48 rfl (by kernel_rfl) fun args => ?_
 unfold pSh2C
 split
 · rename_i n len h
   intro o0
   show RdM.All _ (match intsFrom .i64 o0.c with | some (m, g) => _ | none => _) _
   split
   · rename_i m0 g hm0
     intro o1
     show RdM.All _ (match hol2 o1.c with | some (q0, l0, q1, l1) => _ | none => _) _
     split
     · rename_i q0 l0 q1 l1 hm1
       intro o2
       show RdM.All _ (match intsFrom .i64 o2.c with | some (m, g) => _ | none => _) _
       split
       · rename_i m2 g0 hm2
         intro o3
         show RdM.All _ (match intsFrom .i64 o3.c with | some (m, g) => _ | none => _) _
         split
         · rename_i m3 g1 hm3
           intro ho
           replace ho : m0 = 2 * len ∧ m2 = 2 * l0 ∧ m3 = 2 * l1 ∧ len ≤ 1000000 ∧ l0 ≤ 1000000 ∧ l1 ≤ 1000000 := ho
           obtain ⟨hsz0, hsz2, hsz3, ho⟩ := ho
           subst hsz0
           subst hsz2
           subst hsz3
           refine ⟨?_, _, _, (vc_pSh2 len l0 l1 q0 q1 g g0 g1).mpr ?_⟩
           · refine okFlag_mk rfl ⟨?_, ⟨trivial, (contR_ints hm0).1, ⟨trivial, hol2_spec hm1 (by simp [sgSig, fsts, nth, sameN_self]) (by simp [sgSig, fsts, nth, sameN_self]), ⟨trivial, (contR_ints hm2).1, ⟨trivial, (contR_ints hm3).1, trivial⟩⟩⟩⟩⟩
             simp [eqvRL, eqvR, sgSig, fsts, nth, sameN_self]
           · simp [ho]
         · trivial
       · trivial
     · trivial
   · trivial
 · trivial
noncomputable def pSh3C : List SV → RdM
 | [.agg [.slcc n len, .slcc h 3]] => .read n fun o0 => (match intsFrom .i64 o0.c with
   | some (m0, g) => .read h fun o1 => (match hol3 o1.c with
   | some (q0, l0, q1, l1, q2, l2) => .read q0 fun o2 => (match intsFrom .i64 o2.c with
   | some (m2, g0) => .read q1 fun o3 => (match intsFrom .i64 o3.c with
   | some (m3, g1) => .read q2 fun o4 => (match intsFrom .i64 o4.c with
   | some (m4, g2) => .ret ⟨[.agg [.slcc 0 len, .slcc 1 3]], [(0, ⟨false, 28, .ints .i64 m0 g, 0⟩), (1, ⟨false, 26, .cells [.slcc 2 l0, .slcc 3 l1, .slcc 4 l2], 0⟩), (2, ⟨false, 28, .ints .i64 m2 g0, 0⟩), (3, ⟨false, 28, .ints .i64 m3 g1, 0⟩), (4, ⟨false, 28, .ints .i64 m4 g2, 0⟩)], .agg [.int .i64 3, .slcc 5 len, .slcc 6 3], [], [(5, ⟨true, 23, .ints .i64 (2 * len) g, 2⟩), (6, ⟨true, 25, .cells [.slcc 7 l0, .slcc 8 l1, .slcc 9 l2], 1⟩), (7, ⟨true, 23, .ints .i64 (2 * l0) g0, 2⟩), (8, ⟨true, 23, .ints .i64 (2 * l1) g1, 2⟩), (9, ⟨true, 23, .ints .i64 (2 * l2) g2, 2⟩)], some (m0 = 2 * len ∧ m2 = 2 * l0 ∧ m3 = 2 * l1 ∧ m4 = 2 * l2 ∧ len ≤ 1000000 ∧ l0 ≤ 1000000 ∧ l1 ≤ 1000000 ∧ l2 ≤ 1000000)⟩
   | none => .fail)
   | none => .fail)
   | none => .fail)
   | none => .fail)
   | none => .fail)
 | _ => .fail
theorem vc_pSh3 (len : Nat) (l0 l1 l2 : Nat) (_ _ _ : Nm)  (g : Nat → Int) (g0 : Nat → Int) (g1 : Nat → Int) (g2 : Nat → Int) : runA GPS1 5 [(3, .unr [⟨Nat, fun _ => ⟨26, [(2, .ptr 7 0), (3, .ptr 5 0), (11, .slcc 1 3), (12, .int .i64 3), (13, .int .i64 0)], [(1, ⟨false, 26, .cells [.slcc 2 l0, .slcc 3 l1, .slcc 4 l2], 0⟩), (2, ⟨false, 28, .ints .i64 (2 * l0) g0, 0⟩), (3, ⟨false, 28, .ints .i64 (2 * l1) g1, 0⟩), (4, ⟨false, 28, .ints .i64 (2 * l2) g2, 0⟩), (5, ⟨true, 39, .cells [.int .i64 3, .slcc 6 len, .nils], 0⟩), (6, ⟨true, 23, .ints .i64 (2 * len) g, 2⟩), (7, ⟨true, 39, .cells [.int .i64 0, .nils, .nils], 0⟩)], 8⟩, fun _ => True, fun _ => 0⟩, ⟨Nat, fun _ => ⟨26, [(2, .ptr 7 0), (3, .ptr 5 0), (11, .slcc 1 3), (12, .int .i64 3), (13, .int .i64 1)], [(1, ⟨false, 26, .cells [.slcc 2 l0, .slcc 3 l1, .slcc 4 l2], 0⟩), (2, ⟨false, 28, .ints .i64 (2 * l0) g0, 0⟩), (3, ⟨false, 28, .ints .i64 (2 * l1) g1, 0⟩), (4, ⟨false, 28, .ints .i64 (2 * l2) g2, 0⟩), (5, ⟨true, 39, .cells [.int .i64 3, .slcc 6 len, .slcc 8 1], 0⟩), (6, ⟨true, 23, .ints .i64 (2 * len) g, 2⟩), (7, ⟨true, 39, .cells [.int .i64 0, .nils, .nils], 0⟩), (8, ⟨true, 25, .cells [.slcc 9 l0], 1⟩), (9, ⟨true, 23, .ints .i64 (2 * l0) g0, 2⟩)], 10⟩, fun _ => True, fun _ => 0⟩, ⟨Nat, fun _ => ⟨26, [(2, .ptr 7 0), (3, .ptr 5 0), (11, .slcc 1 3), (12, .int .i64 3), (13, .int .i64 2)], [(1, ⟨false, 26, .cells [.slcc 2 l0, .slcc 3 l1, .slcc 4 l2], 0⟩), (2, ⟨false, 28, .ints .i64 (2 * l0) g0, 0⟩), (3, ⟨false, 28, .ints .i64 (2 * l1) g1, 0⟩), (4, ⟨false, 28, .ints .i64 (2 * l2) g2, 0⟩), (5, ⟨true, 39, .cells [.int .i64 3, .slcc 6 len, .slcc 8 2], 0⟩), (6, ⟨true, 23, .ints .i64 (2 * len) g, 2⟩), (7, ⟨true, 39, .cells [.int .i64 0, .nils, .nils], 0⟩), (8, ⟨true, 25, .cells [.slcc 9 l0, .slcc 10 l1], 1⟩), (9, ⟨true, 23, .ints .i64 (2 * l0) g0, 2⟩), (10, ⟨true, 23, .ints .i64 (2 * l1) g1, 2⟩)], 11⟩, fun _ => True, fun _ => 0⟩, ⟨Nat, fun _ => ⟨26, [(2, .ptr 7 0), (3, .ptr 5 0), (11, .slcc 1 3), (12, .int .i64 3), (13, .int .i64 3)], [(1, ⟨false, 26, .cells [.slcc 2 l0, .slcc 3 l1, .slcc 4 l2], 0⟩), (2, ⟨false, 28, .ints .i64 (2 * l0) g0, 0⟩), (3, ⟨false, 28, .ints .i64 (2 * l1) g1, 0⟩), (4, ⟨false, 28, .ints .i64 (2 * l2) g2, 0⟩), (5, ⟨true, 39, .cells [.int .i64 3, .slcc 6 len, .slcc 8 3], 0⟩), (6, ⟨true, 23, .ints .i64 (2 * len) g, 2⟩), (7, ⟨true, 39, .cells [.int .i64 0, .nils, .nils], 0⟩), (8, ⟨true, 25, .cells [.slcc 9 l0, .slcc 10 l1, .slcc 11 l2], 1⟩), (9, ⟨true, 23, .ints .i64 (2 * l0) g0, 2⟩), (10, ⟨true, 23, .ints .i64 (2 * l1) g1, 2⟩), (11, ⟨true, 23, .ints .i64 (2 * l2) g2, 2⟩)], 12⟩, fun _ => True, fun _ => 0⟩])] [] (codeOf Tryz.f48) (init Tryz.f48.ntmps [.agg [.slcc 0 len, .slcc 1 3]] [(0, ⟨false, 28, .ints .i64 (2 * len) g, 0⟩), (1, ⟨false, 26, .cells [.slcc 2 l0, .slcc 3 l1, .slcc 4 l2], 0⟩), (2, ⟨false, 28, .ints .i64 (2 * l0) g0, 0⟩), (3, ⟨false, 28, .ints .i64 (2 * l1) g1, 0⟩), (4, ⟨false, 28, .ints .i64 (2 * l2) g2, 0⟩)] 5) (endK GPS1.E.T Tryz.f48.results.toList fun S v => postP 5 ⟨[.agg [.slcc 0 len, .slcc 1 3]], [(0, ⟨false, 28, .ints .i64 (2 * len) g, 0⟩), (1, ⟨false, 26, .cells [.slcc 2 l0, .slcc 3 l1, .slcc 4 l2], 0⟩), (2, ⟨false, 28, .ints .i64 (2 * l0) g0, 0⟩), (3, ⟨false, 28, .ints .i64 (2 * l1) g1, 0⟩), (4, ⟨false, 28, .ints .i64 (2 * l2) g2, 0⟩)], .agg [.int .i64 3, .slcc 5 len, .slcc 6 3], [], [(5, ⟨true, 23, .ints .i64 (2 * len) g, 2⟩), (6, ⟨true, 25, .cells [.slcc 7 l0, .slcc 8 l1, .slcc 9 l2], 1⟩), (7, ⟨true, 23, .ints .i64 (2 * l0) g0, 2⟩), (8, ⟨true, 23, .ints .i64 (2 * l1) g1, 2⟩), (9, ⟨true, 23, .ints .i64 (2 * l2) g2, 2⟩)], some (2 * len = 2 * len ∧ 2 * l0 = 2 * l0 ∧ 2 * l1 = 2 * l1 ∧ 2 * l2 = 2 * l2 ∧ len ≤ 1000000 ∧ l0 ≤ 1000000 ∧ l1 ≤ 1000000 ∧ l2 ≤ 1000000)⟩ S v) = (
(2 * len = 2 * len ∧ len ≤ 1000000) ∧ (∃ (_ : Nat), True ∧ ((True ∧ 0 = 0) ∧ (True ∧ 0 = 0) ∧ (True ∧ 3 = 3) ∧ (3 : Int) = 3 ∧ (0 : Int) = 0 ∧ True) ∧ True ∧
((True ∧ l0 = l0) ∧ (True ∧ l1 = l1) ∧ (True ∧ l2 = l2) ∧ True) ∧ True ∧ (2 * l0 ≤ 2 * l0 ∧ ∀ (i : Nat), i < 2 * l0 → g0 i = g0 i) ∧ True ∧ (2 * l1 ≤ 2 * l1 ∧ ∀ (i : Nat), i < 2 * l1 → g1 i = g1 i) ∧
 True ∧ (2 * l2 ≤ 2 * l2 ∧ ∀ (i : Nat), i < 2 * l2 → g2 i = g2 i) ∧ True ∧ (39 = 39 ∧ 0 = 0 ∧ (3 : Int) = 3 ∧ (True ∧ len = len) ∧ True ∧ True) ∧ True ∧ (23 = 23 ∧ 2 = 2 ∧ 2 * len ≤ 2 * len ∧ ∀ (i : Nat), i < 2 * len → g i = g i) ∧ True ∧ (39 = 39 ∧ 0 = 0 ∧ (0 : Int) = 0 ∧ True ∧ True ∧ True) ∧ True) ∧ (∀ (_ : Nat), True → (true = true →
(((0 : Int) ≤ 0 ∧ (0 : Int) < 3) ∧ True) ∧ (2 * l0 = 2 * l0 ∧ l0 ≤ 1000000) ∧ true = true ∧ ∃ (_ : Nat), True ∧ ((True ∧ 0 = 0) ∧ (True ∧ 0 = 0) ∧ (True ∧ 3 = 3)
∧ (3 : Int) = 3 ∧ (1 : Int) = 1 ∧ True) ∧ True ∧ ((True ∧ l0 = l0) ∧ (True ∧ l1 = l1) ∧ (True ∧ l2 = l2) ∧ True) ∧ True ∧ (2 * l0 ≤ 2 * l0 ∧ ∀ (i : Nat), i < 2 * l0 → g0 i = g0 i) ∧ True ∧ (2 * l1 ≤ 2 * l1 ∧ ∀ (i : Nat), i < 2 * l1 → g1 i = g1 i) ∧ True ∧ (2 * l2 ≤ 2 * l2 ∧ ∀ (i : Nat), i < 2 * l2 → g2 i = g2 i) ∧ True ∧ (39 = 39 ∧ 0 = 0 ∧ (3 : Int) = 3 ∧ (True ∧ len =
 len) ∧ (True ∧ 1 = 1) ∧ True) ∧ True ∧ (23 = 23 ∧ 2 = 2 ∧ 2 * len ≤ 2 * len ∧ ∀ (i : Nat), i < 2 * len → g i = g i) ∧ True ∧ (39 = 39 ∧ 0 = 0 ∧ (0
: Int) = 0 ∧ True ∧ True ∧ True) ∧ True ∧ (25 = 25 ∧ 1 = 1 ∧ (True ∧ l0 = l0) ∧ True) ∧ True ∧ (23 = 23 ∧ 2 = 2 ∧ 2 * l0 ≤ 2 * l0 ∧ ∀ (i : Nat), i < 2 *
 l0 → g0 i = g0 i) ∧ True) ∧ (true = false → ((3 : Int) = 3 ∧ (True ∧ len = len) ∧ 3 = 0 ∧ True) ∧ True ∧ (23 = 23 ∧ 2 = 2 ∧ 2 * len ≤ 2 * len ∧ ∀ (i : Nat), i < 2 * len →
 g i = g i) ∧ True ∧ List.length [SV.slcc 7 l0, SV.slcc 8 l1, SV.slcc 9 l2] = 0 ∧ True ∧ 2 * l0 = 0 ∧ True ∧ 2 * l1 = 0 ∧ True ∧ 2 * l2 = 0 ∧ True)) ∧ (∀ (_ : Nat), True →
(true = true → (((0 : Int) ≤ 1 ∧ (1 : Int) < 3) ∧ True) ∧ (2 * l1 = 2 * l1 ∧ l1 ≤ 1000000) ∧ (List.length [SV.slcc 9 l0] = 1 ∧ 48 ≤ 140737488355328 ∧ 2 ≤
9223372036854775807) ∧ true = true ∧ ∃ (_ : Nat), True ∧ ((True ∧ 0 = 0) ∧ (True ∧ 0 = 0) ∧ (True ∧ 3 = 3) ∧ (3 : Int) = 3 ∧ (2 : Int) = 2 ∧ True) ∧ True ∧ ((True ∧ l0 = l0) ∧
(True ∧ l1 = l1) ∧ (True ∧ l2 = l2) ∧ True) ∧ True ∧ (2 * l0 ≤ 2 * l0 ∧ ∀ (i : Nat), i < 2 * l0 → g0 i = g0 i) ∧ True ∧ (2 * l1 ≤ 2 * l1 ∧ ∀ (i : Nat), i < 2 * l1 → g1 i = g1 i) ∧ True ∧ (2 * l2
≤ 2 * l2 ∧ ∀ (i : Nat), i < 2 * l2 → g2 i = g2 i) ∧ True ∧ (39 = 39 ∧ 0 = 0 ∧ (3 : Int) = 3 ∧ (True ∧ len = len) ∧ (True ∧ 2 = 2) ∧ True) ∧ True ∧ (23 = 23 ∧ 2 = 2 ∧ 2 * len ≤ 2 * len ∧ ∀ (i : Nat), i < 2 * len → g i = g i) ∧ True ∧ (39 = 39 ∧ 0 = 0 ∧ (0 : Int) = 0 ∧ True ∧ True ∧ True) ∧ True ∧ (25 = 25 ∧ 1
= 1 ∧ (True ∧ l0 = l0) ∧ (True ∧ l1 = l1) ∧ True) ∧ True ∧ (23 = 23 ∧ 2 = 2 ∧ 2 * l0 ≤ 2 * l0 ∧ ∀ (i : Nat), i < 2 * l0 → g0 i = g0 i) ∧ True ∧ (23 = 23 ∧ 2 = 2 ∧ 2 * l1 ≤ 2 * l1 ∧ ∀ (i : Nat), i < 2 * l1 → g1 i = g1 i) ∧ True) ∧ (true = false → ((3 : Int) = 3 ∧ (True ∧ len = len) ∧ (True ∧ 1 = 3) ∧ True) ∧ True ∧ (23 = 23 ∧ 2 =
2 ∧ 2 * len ≤ 2 * len ∧ ∀ (i : Nat), i < 2 * len → g i = g i) ∧ True ∧ (25 = 25 ∧ 1 = 1 ∧ (True ∧ l0 = l0) ∧ False) ∧ True ∧ (23 = 23 ∧ 2 = 2 ∧ 2
* l0 ≤ 2 * l0 ∧ ∀ (i : Nat), i < 2 * l0 → g0 i = g0 i) ∧ True ∧ 2 * l1 = 0 ∧ True ∧ 2 * l2 = 0 ∧ True)) ∧ (∀ (_ : Nat), True → (true = true → (((0 : Int) ≤ 2 ∧ (2 : Int) < 3) ∧ True) ∧
(2 * l2 = 2 * l2 ∧ l2 ≤ 1000000) ∧ (List.length [SV.slcc 9 l0, SV.slcc 10 l1] = 2 ∧ 72 ≤ 140737488355328 ∧ 3 ≤ 9223372036854775807) ∧ true = true ∧ ∃ (_ : Nat), True ∧
((True ∧ 0 = 0) ∧ (True ∧ 0 = 0) ∧ (True ∧ 3 = 3) ∧ (3 : Int) = 3 ∧ (3 : Int) = 3 ∧ True) ∧ True ∧ ((True ∧ l0 = l0) ∧ (True ∧ l1 = l1) ∧ (True ∧ l2 = l2) ∧ True) ∧ True ∧ (2 *
 l0 ≤ 2 * l0 ∧ ∀ (i : Nat), i < 2 * l0 → g0 i = g0 i) ∧ True ∧ (2 * l1 ≤ 2 * l1 ∧ ∀ (i : Nat), i < 2 * l1 → g1 i = g1 i) ∧ True ∧ (2 * l2 ≤ 2 * l2 ∧ ∀ (i : Nat), i < 2 * l2 → g2 i = g2 i)
∧ True ∧ (39 = 39 ∧ 0 = 0 ∧ (3 : Int) = 3 ∧ (True ∧ len = len) ∧ (True ∧ 3 = 3) ∧ True) ∧ True ∧ (23 = 23 ∧ 2 = 2 ∧ 2 * len ≤ 2 * len ∧ ∀ (i :
 Nat), i < 2 * len → g i = g i) ∧ True ∧ (39 = 39 ∧ 0 = 0 ∧ (0 : Int) = 0 ∧ True ∧ True ∧ True) ∧ True ∧ (25 = 25 ∧ 1 = 1 ∧ (True ∧ l0 = l0) ∧ (True ∧ l1 = l1) ∧ (True ∧
 l2 = l2) ∧ True) ∧ True ∧ (23 = 23 ∧ 2 = 2 ∧ 2 * l0 ≤ 2 * l0 ∧ ∀ (i : Nat), i < 2 * l0 → g0 i = g0 i) ∧ True ∧ (23 = 23 ∧ 2 = 2 ∧ 2 * l1 ≤ 2 * l1
∧ ∀ (i : Nat), i < 2 * l1 → g1 i = g1 i) ∧ True ∧ (23 = 23 ∧ 2 = 2 ∧ 2 * l2 ≤ 2 * l2 ∧ ∀ (i : Nat), i < 2 * l2 → g2 i = g2 i) ∧ True) ∧ (true = false → ((3 : Int) = 3 ∧ (True ∧
 len = len) ∧ (True ∧ 2 = 3) ∧ True) ∧ True ∧ (23 = 23 ∧ 2 = 2 ∧ 2 * len ≤ 2 * len ∧ ∀ (i : Nat), i < 2 * len → g i = g i) ∧ True ∧ (25 = 25 ∧ 1 = 1 ∧ (True ∧ l0 = l0) ∧ (True ∧ l1 = l1) ∧ False) ∧ True ∧ (23 = 23 ∧ 2 = 2 ∧ 2 * l0 ≤ 2 * l0 ∧ ∀ (i : Nat), i < 2 * l0 → g0 i = g0 i) ∧ True ∧ (23 = 23 ∧ 2 = 2
∧ 2 * l1 ≤ 2 * l1 ∧ ∀ (i : Nat), i < 2 * l1 → g1 i = g1 i) ∧ True ∧ 2 * l2 = 0 ∧ True)) ∧ (∀ (_ : Nat), True → (false = true → (((0 : Int) ≤ 3 ∧ (3 : Int) < 3) ∧ True) ∧ False) ∧ (false = false
→ ((3 : Int) = 3 ∧ (True ∧ len = len) ∧ (True ∧ 3 = 3) ∧ True) ∧ True ∧ (23 = 23 ∧ 2 = 2 ∧ 2 * len ≤ 2 * len ∧ ∀ (i : Nat), i < 2 * len → g i = g i) ∧ True ∧ (25
= 25 ∧ 1 = 1 ∧ (True ∧ l0 = l0) ∧ (True ∧ l1 = l1) ∧ (True ∧ l2 = l2) ∧ True) ∧ True ∧ (23 = 23 ∧ 2 = 2 ∧ 2 * l0 ≤ 2 * l0 ∧ ∀ (i : Nat), i < 2 * l0 → g0 i = g0 i) ∧ True
∧ (23 = 23 ∧ 2 = 2 ∧ 2 * l1 ≤ 2 * l1 ∧ ∀ (i : Nat), i < 2 * l1 → g1 i = g1 i) ∧ True ∧ (23 = 23 ∧ 2 = 2 ∧ 2 * l2 ≤ 2 * l2 ∧ ∀ (i : Nat), i < 2 * l2 → g2 i = g2 i) ∧ True)) ∧ True) := by kernel_rfl
theorem pSh3 : ConOk Tryz.prog 48 (conR pSh3C) := by
 refine con_of_vc gPS1 Tryz.func48 rfl (by kernel_rfl) fun args => ?_
 unfold pSh3C
 split
 · rename_i n len h
   intro o0
   show RdM.All _ (match intsFrom .i64 o0.c with | some (m, g) => _ | none => _) _
   split
   · rename_i m0 g hm0
     intro o1
     show RdM.All _ (match hol3 o1.c with | some (q0, l0, q1, l1, q2, l2) => _ | none => _) _
     split
     · rename_i q0 l0 q1 l1 q2 l2 hm1
       intro o2
       show RdM.All _ (match intsFrom .i64 o2.c with | some (m, g) => _ | none => _) _
       split
       · rename_i m2 g0 hm2
         intro o3
         show RdM.All _ (match intsFrom .i64 o3.c with | some (m, g) => _ | none => _) _
         split
         · rename_i m3 g1 hm3
           intro o4
           show RdM.All _ (match intsFrom .i64 o4.c with | some (m, g) => _ | none => _) _
           split
           · rename_i m4 g2 hm4
             intro ho
             replace ho : m0 = 2 * len ∧ m2 = 2 * l0 ∧ m3 = 2 * l1 ∧ m4 = 2 * l2 ∧ len ≤ 1000000 ∧ l0 ≤ 1000000 ∧ l1 ≤ 1000000 ∧ l2 ≤ 1000000 := ho
             obtain ⟨hsz0, hsz2, hsz3, hsz4, ho⟩ := ho
             subst hsz0
             subst hsz2
             subst hsz3
             subst hsz4
             refine ⟨?_, _, _, (vc_pSh3 len l0 l1 l2 q0 q1 q2 g g0 g1 g2).mpr ?_⟩
             · refine okFlag_mk rfl ⟨?_, ⟨trivial, (contR_ints hm0).1, ⟨trivial, hol3_spec hm1 (by simp [sgSig, fsts, nth, sameN_self]) (by simp [sgSig, fsts, nth, sameN_self]) (by simp [sgSig, fsts, nth, sameN_self]), ⟨trivial, (contR_ints hm2).1, ⟨trivial, (contR_ints hm3).1, ⟨trivial, (contR_ints hm4).1, trivial⟩⟩⟩⟩⟩⟩
               simp [eqvRL, eqvR, sgSig, fsts, nth, sameN_self]
             · simp [ho]
           · trivial
         · trivial
       · trivial
     · trivial
   · trivial
 · trivial
noncomputable def pSh4C : List SV → RdM
 | [.agg [.slcc n len, .slcc h 4]] => .read n fun o0 => (match intsFrom .i64 o0.c with
   | some (m0, g) => .read h fun o1 => (match hol4 o1.c with
   | some (q0, l0, q1, l1, q2, l2, q3, l3) => .read q0 fun o2 => (match intsFrom .i64 o2.c with
   | some (m2, g0) => .read q1 fun o3 => (match intsFrom .i64 o3.c with
   | some (m3, g1) => .read q2 fun o4 => (match intsFrom .i64 o4.c with
   | some (m4, g2) => .read q3 fun o5 => (match intsFrom .i64 o5.c with
   | some (m5, g3) => .ret ⟨[.agg [.slcc 0 len, .slcc 1 4]], [(0, ⟨false, 28, .ints .i64 m0 g, 0⟩), (1, ⟨false, 26, .cells [.slcc 2 l0, .slcc 3 l1, .slcc 4 l2, .slcc 5 l3], 0⟩), (2, ⟨false, 28, .ints .i64 m2 g0, 0⟩), (3, ⟨false, 28, .ints .i64 m3 g1, 0⟩), (4, ⟨false, 28, .ints .i64 m4 g2, 0⟩), (5, ⟨false, 28, .ints .i64 m5 g3, 0⟩)], .agg [.int .i64 3, .slcc 6 len, .slcc 7 4], [], [(6, ⟨true, 23, .ints .i64 (2 * len) g, 2⟩), (7, ⟨true, 25, .cells [.slcc 8 l0, .slcc 9 l1, .slcc 10 l2, .slcc 11 l3], 1⟩), (8, ⟨true, 23, .ints .i64 (2 * l0) g0, 2⟩), (9, ⟨true, 23, .ints .i64 (2 * l1) g1, 2⟩), (10, ⟨true, 23, .ints .i64 (2 * l2) g2, 2⟩), (11, ⟨true, 23, .ints .i64 (2 * l3) g3, 2⟩)], some (m0 = 2 * len ∧ m2 = 2 * l0 ∧ m3 = 2 * l1 ∧ m4 = 2 * l2 ∧ m5 = 2 * l3 ∧ len ≤ 1000000 ∧ l0 ≤ 1000000 ∧ l1 ≤ 1000000 ∧ l2 ≤ 1000000 ∧ l3 ≤ 1000000)⟩
   | none => .fail)
   | none => .fail)
   | none => .fail)
   | none => .fail)
   | none => .fail)
   | none => .fail)
 | _ => .fail
theorem vc_pSh4 (len : Nat) (l0 l1 l2 l3 : Nat) (_ _ _ _ : Nm)  (g : Nat → Int) (g0 : Nat → Int) (g1 : Nat → Int) (g2 : Nat → Int) (g3 : Nat → Int) : runA GPS1 6 [(3, .unr [⟨Nat, fun _ => ⟨26, [(2, .ptr 8 0), (3, .ptr 6 0), (11, .slcc 1 4), (12, .int .i64 4), (13, .int .i64 0)], [(1, ⟨false, 26, .cells [.slcc 2 l0, .slcc 3 l1, .slcc 4 l2, .slcc 5 l3], 0⟩), (2, ⟨false, 28, .ints .i64 (2 * l0) g0, 0⟩), (3, ⟨false, 28, .ints .i64 (2 * l1) g1, 0⟩), (4, ⟨false, 28, .ints .i64 (2 * l2) g2, 0⟩), (5, ⟨false, 28, .ints .i64 (2 * l3) g3, 0⟩), (6, ⟨true, 39, .cells [.int .i64 3, .slcc 7 len, .nils], 0⟩), (7, ⟨true, 23, .ints .i64 (2 * len) g, 2⟩), (8, ⟨true, 39, .cells [.int .i64 0, .nils, .nils], 0⟩)], 9⟩, fun _ => True, fun _ => 0⟩, ⟨Nat, fun _ => ⟨26, [(2, .ptr 8 0), (3, .ptr 6 0), (11, .slcc 1 4), (12, .int .i64 4), (13, .int .i64 1)], [(1, ⟨false, 26, .cells [.slcc 2 l0, .slcc 3 l1, .slcc 4 l2, .slcc 5 l3], 0⟩), (2, ⟨false, 28, .ints .i64 (2 * l0) g0, 0⟩), (3, ⟨false, 28, .ints .i64 (2 * l1) g1, 0⟩), (4, ⟨false, 28, .ints .i64 (2 * l2) g2, 0⟩), (5, ⟨false, 28, .ints .i64 (2 * l3) g3, 0⟩), (6, ⟨true, 39, .cells [.int .i64 3, .slcc 7 len, .slcc 9 1], 0⟩), (7, ⟨true, 23, .ints .i64 (2 * len) g, 2⟩), (8, ⟨true, 39, .cells [.int .i64 0, .nils, .nils], 0⟩), (9, ⟨true, 25, .cells [.slcc 10 l0], 1⟩), (10, ⟨true, 23, .ints .i64 (2 * l0) g0, 2⟩)], 11⟩, fun _ => True, fun _ => 0⟩, ⟨Nat, fun _ => ⟨26, [(2, .ptr 8 0), (3, .ptr 6 0), (11, .slcc 1 4), (12, .int .i64 4), (13, .int .i64 2)], [(1, ⟨false, 26, .cells [.slcc 2 l0, .slcc 3 l1, .slcc 4 l2, .slcc 5 l3], 0⟩), (2, ⟨false, 28, .ints .i64 (2 * l0) g0, 0⟩), (3, ⟨false, 28, .ints .i64 (2 * l1) g1, 0⟩), (4, ⟨false, 28, .ints .i64 (2 * l2) g2, 0⟩), (5, ⟨false, 28, .ints .i64 (2 * l3) g3, 0⟩), (6, ⟨true, 39, .cells [.int .i64 3, .slcc 7 len, .slcc 9 2], 0⟩), (7, ⟨true, 23, .ints .i64 (2 * len) g, 2⟩), (8, ⟨true, 39, .cells [.int .i64 0, .nils, .nils], 0⟩), (9, ⟨true, 25, .cells [.slcc 10 l0, .slcc 11 l1], 1⟩), (10, ⟨true, 23, .ints .i64 (2 * l0) g0, 2⟩), (11, ⟨true, 23, .ints .i64 (2 * l1) g1, 2⟩)], 12⟩, fun _ => True, fun _ => 0⟩, ⟨Nat, fun _ => ⟨26, [(2, .ptr 8 0), (3, .ptr 6 0), (11, .slcc 1 4), (12, .int .i64 4), (13, .int .i64 3)], [(1, ⟨false, 26, .cells [.slcc 2 l0, .slcc 3 l1, .slcc 4 l2, .slcc 5 l3], 0⟩), (2, ⟨false, 28, .ints .i64 (2 * l0) g0, 0⟩), (3, ⟨false, 28, .ints .i64 (2 * l1) g1, 0⟩), (4, ⟨false, 28, .ints .i64 (2 * l2) g2, 0⟩), (5, ⟨false, 28, .ints .i64 (2 * l3) g3, 0⟩), (6, ⟨true, 39, .cells [.int .i64 3, .slcc 7 len, .slcc 9 3], 0⟩), (7, ⟨true, 23, .ints .i64 (2 * len) g, 2⟩), (8, ⟨true, 39, .cells [.int .i64 0, .nils, .nils], 0⟩), (9, ⟨true, 25, .cells [.slcc 10 l0, .slcc 11 l1, .slcc 12 l2], 1⟩), (10, ⟨true, 23, .ints .i64 (2 * l0) g0, 2⟩), (11, ⟨true, 23, .ints .i64 (2 * l1) g1, 2⟩), (12, ⟨true, 23, .ints .i64 (2 * l2) g2, 2⟩)], 13⟩, fun _ => True, fun _ => 0⟩, ⟨Nat, fun _ => ⟨26, [(2, .ptr 8 0), (3, .ptr 6 0), (11, .slcc 1 4), (12, .int .i64 4), (13, .int .i64 4)], [(1, ⟨false, 26, .cells [.slcc 2 l0, .slcc 3 l1, .slcc 4 l2, .slcc 5 l3], 0⟩), (2, ⟨false, 28, .ints .i64 (2 * l0) g0, 0⟩), (3, ⟨false, 28, .ints .i64 (2 * l1) g1, 0⟩), (4, ⟨false, 28, .ints .i64 (2 * l2) g2, 0⟩), (5, ⟨false, 28, .ints .i64 (2 * l3) g3, 0⟩), (6, ⟨true, 39, .cells [.int .i64 3, .slcc 7 len, .slcc 9 4], 0⟩), (7, ⟨true, 23, .ints .i64 (2 * len) g, 2⟩), (8, ⟨true, 39, .cells [.int .i64 0, .nils, .nils], 0⟩), (9, ⟨true, 25, .cells [.slcc 10 l0, .slcc 11 l1, .slcc 12 l2, .slcc 13 l3], 1⟩), (10, ⟨true, 23, .ints .i64 (2 * l0) g0, 2⟩), (11, ⟨true, 23, .ints .i64 (2 * l1) g1, 2⟩), (12, ⟨true, 23, .ints .i64 (2 * l2) g2, 2⟩), (13, ⟨true, 23, .ints .i64 (2 * l3) g3, 2⟩)], 14⟩, fun _ => True, fun _ => 0⟩])] [] (codeOf Tryz.f48) (init Tryz.f48.ntmps [.agg [.slcc 0 len, .slcc 1 4]] [(0, ⟨false, 28, .ints .i64 (2 * len) g, 0⟩), (1, ⟨false, 26, .cells [.slcc 2 l0, .slcc 3 l1, .slcc 4 l2, .slcc 5 l3], 0⟩), (2, ⟨false, 28, .ints .i64 (2 * l0) g0, 0⟩), (3, ⟨false, 28, .ints .i64 (2 * l1) g1, 0⟩), (4, ⟨false, 28, .ints .i64 (2 * l2) g2, 0⟩), (5, ⟨false, 28, .ints .i64 (2 * l3) g3, 0⟩)] 6) (endK GPS1.E.T Tryz.f48.results.toList fun S v => postP 6 ⟨[.agg [.slcc 0 len, .slcc 1 4]], [(0, ⟨false, 28, .ints .i64 (2 * len) g, 0⟩), (1, ⟨false, 26, .cells [.slcc 2 l0, .slcc 3 l1, .slcc 4 l2, .slcc 5 l3], 0⟩), (2, ⟨false, 28, .ints .i64 (2 * l0) g0, 0⟩), (3, ⟨false, 28, .ints .i64 (2 * l1) g1, 0⟩), (4, ⟨false, 28, .ints .i64 (2 * l2) g2, 0⟩), (5, ⟨false, 28, .ints .i64 (2 * l3) g3, 0⟩)], .agg [.int .i64 3, .slcc 6 len, .slcc 7 4], [], [(6, ⟨true, 23, .ints .i64 (2 * len) g, 2⟩), (7, ⟨true, 25, .cells [.slcc 8 l0, .slcc 9 l1, .slcc 10 l2, .slcc 11 l3], 1⟩), (8, ⟨true, 23, .ints .i64 (2 * l0) g0, 2⟩), (9, ⟨true, 23, .ints .i64 (2 * l1) g1, 2⟩), (10, ⟨true, 23, .ints .i64 (2 * l2) g2, 2⟩), (11, ⟨true, 23, .ints .i64 (2 * l3) g3, 2⟩)], some (2 * len = 2 * len ∧ 2 * l0 = 2 * l0 ∧ 2 * l1 = 2 * l1 ∧ 2 * l2 = 2 * l2 ∧ 2 * l3 = 2 * l3 ∧ len ≤ 1000000 ∧ l0 ≤ 1000000 ∧ l1 ≤ 1000000 ∧ l2 ≤ 1000000 ∧ l3 ≤ 1000000)⟩ S v) = (
(2 * len = 2 * len ∧ len ≤ 1000000) ∧ (∃ (_ : Nat), True ∧ ((True ∧ 0 = 0) ∧ (True ∧ 0 = 0) ∧ (True ∧ 4 = 4) ∧ (4 : Int) = 4 ∧ (0 : Int) = 0 ∧ True) ∧ True ∧
((True ∧ l0 = l0) ∧ (True ∧ l1 = l1) ∧ (True ∧ l2 = l2) ∧ (True ∧ l3 = l3) ∧ True) ∧ True ∧ (2 * l0 ≤ 2 * l0 ∧ ∀ (i : Nat), i < 2 * l0 → g0 i = g0 i) ∧ True ∧ (2 * l1 ≤ 2 * l1 ∧ ∀ (i : Nat), i < 2 * l1
→ g1 i = g1 i) ∧ True ∧ (2 * l2 ≤ 2 * l2 ∧ ∀ (i : Nat), i < 2 * l2 → g2 i = g2 i) ∧ True ∧ (2 * l3 ≤ 2 * l3 ∧ ∀ (i : Nat), i < 2 * l3 → g3 i = g3 i) ∧ True ∧ (39 = 39 ∧ 0 = 0 ∧ (3 : Int) = 3 ∧ (True ∧ len = len) ∧ True ∧ True) ∧ True ∧ (23 = 23 ∧ 2 = 2 ∧ 2 * len ≤ 2 * len ∧ ∀ (i : Nat), i < 2 * len → g i = g i) ∧ True ∧ (39 = 39 ∧ 0 = 0 ∧ (0 : Int) = 0 ∧ True ∧ True ∧ True) ∧ True) ∧ (∀ (_ : Nat), True → (true = true → (((0 : Int) ≤ 0 ∧ (0 : Int) < 4) ∧ True) ∧ (2 * l0 = 2 * l0 ∧ l0 ≤ 1000000) ∧ true = true ∧ ∃ (_ :
 Nat), True ∧ ((True ∧ 0 = 0) ∧ (True ∧ 0 = 0) ∧ (True ∧ 4 = 4) ∧ (4 : Int) = 4 ∧ (1 : Int) = 1 ∧ True) ∧ True ∧ ((True ∧ l0 = l0) ∧ (True ∧ l1 = l1) ∧ (True ∧ l2 = l2) ∧ (True ∧ l3 = l3)
∧ True) ∧ True ∧ (2 * l0 ≤ 2 * l0 ∧ ∀ (i : Nat), i < 2 * l0 → g0 i = g0 i) ∧ True ∧ (2 * l1 ≤ 2 * l1 ∧ ∀ (i : Nat), i < 2 * l1 → g1 i = g1 i) ∧ True ∧ (2 * l2 ≤ 2 * l2 ∧ ∀ (i : Nat), i <
2 * l2 → g2 i = g2 i) ∧ True ∧ (2 * l3 ≤ 2 * l3 ∧ ∀ (i : Nat), i < 2 * l3 → g3 i = g3 i) ∧ True ∧ (39 = 39 ∧ 0 = 0 ∧ (3 : Int) = 3 ∧ (True ∧ len = len) ∧ (True ∧ 1 = 1) ∧ True) ∧ True ∧ (23 = 23 ∧ 2 = 2 ∧ 2 * len ≤ 2 * len ∧ ∀ (i : Nat), i < 2 * len → g i = g i) ∧ True ∧ (39 = 39 ∧ 0 = 0 ∧ (0 : Int) = 0 ∧ True ∧
 True ∧ True) ∧ True ∧ (25 = 25 ∧ 1 = 1 ∧ (True ∧ l0 = l0) ∧ True) ∧ True ∧ (23 = 23 ∧ 2 = 2 ∧ 2 * l0 ≤ 2 * l0 ∧ ∀ (i : Nat), i < 2 * l0 → g0 i = g0 i) ∧ True) ∧
(true = false → ((3 : Int) = 3 ∧ (True ∧ len = len) ∧ 4 = 0 ∧ True) ∧ True ∧ (23 = 23 ∧ 2 = 2 ∧ 2 * len ≤ 2 * len ∧ ∀ (i : Nat), i < 2 * len → g i = g i) ∧ True ∧
 List.length [SV.slcc 8 l0, SV.slcc 9 l1, SV.slcc 10 l2, SV.slcc 11 l3] = 0 ∧ True ∧ 2 * l0 = 0 ∧ True ∧ 2 * l1 = 0 ∧ True ∧ 2 * l2 = 0 ∧ True ∧ 2 * l3 =
0 ∧ True)) ∧ (∀ (_ : Nat), True → (true = true → (((0 : Int) ≤ 1 ∧ (1 : Int) < 4) ∧ True) ∧ (2 * l1 = 2 * l1 ∧ l1 ≤ 1000000) ∧ (List.length [SV.slcc 10 l0] = 1 ∧ 48 ≤
140737488355328 ∧ 2 ≤ 9223372036854775807) ∧ true = true ∧ ∃ (_ : Nat), True ∧ ((True ∧ 0 = 0) ∧ (True ∧ 0 = 0) ∧ (True ∧ 4 = 4) ∧ (4 : Int) = 4 ∧ (2 : Int) = 2 ∧
 True) ∧ True ∧ ((True ∧ l0 = l0) ∧ (True ∧ l1 = l1) ∧ (True ∧ l2 = l2) ∧ (True ∧ l3 = l3) ∧ True) ∧ True ∧ (2 * l0 ≤ 2 * l0 ∧ ∀ (i : Nat), i < 2 * l0 → g0 i = g0 i) ∧ True ∧ (2 * l1 ≤ 2 * l1 ∧ ∀ (i : Nat), i <
2 * l1 → g1 i = g1 i) ∧ True ∧ (2 * l2 ≤ 2 * l2 ∧ ∀ (i : Nat), i < 2 * l2 → g2 i = g2 i) ∧ True ∧ (2 * l3 ≤ 2 * l3 ∧ ∀ (i : Nat), i < 2 * l3 → g3 i = g3 i) ∧ True ∧ (39 = 39 ∧ 0 = 0 ∧ (3 : Int) = 3 ∧ (True ∧ len = len) ∧ (True ∧ 2 = 2) ∧ True) ∧ True ∧ (23 = 23 ∧ 2 = 2 ∧ 2 * len ≤ 2 * len ∧ ∀ (i : Nat), i < 2 * len → g i = g i) ∧
 True ∧ (39 = 39 ∧ 0 = 0 ∧ (0 : Int) = 0 ∧ True ∧ True ∧ True) ∧ True ∧ (25 = 25 ∧ 1 = 1 ∧ (True ∧ l0 = l0) ∧ (True ∧ l1 = l1) ∧ True) ∧ True ∧ (23 = 23 ∧ 2 = 2 ∧ 2 * l0 ≤ 2 * l0 ∧ ∀ (i : Nat), i < 2 * l0 → g0 i = g0 i) ∧ True ∧ (23 = 23 ∧ 2 = 2 ∧ 2 * l1 ≤ 2 * l1 ∧ ∀ (i : Nat), i < 2 * l1 → g1 i = g1 i) ∧ True) ∧
(true = false → ((3 : Int) = 3 ∧ (True ∧ len = len) ∧ (True ∧ 1 = 4) ∧ True) ∧ True ∧ (23 = 23 ∧ 2 = 2 ∧ 2 * len ≤ 2 * len ∧ ∀ (i : Nat), i < 2 * len → g i = g i) ∧ True
∧ (25 = 25 ∧ 1 = 1 ∧ (True ∧ l0 = l0) ∧ False) ∧ True ∧ (23 = 23 ∧ 2 = 2 ∧ 2 * l0 ≤ 2 * l0 ∧ ∀ (i : Nat), i < 2 * l0 → g0 i = g0 i) ∧ True ∧ 2 * l1 = 0 ∧ True ∧ 2 * l2 = 0 ∧ True ∧ 2 * l3 = 0 ∧ True)) ∧ (∀ (_ : Nat), True → (true = true → (((0 : Int) ≤ 2 ∧ (2 : Int) < 4) ∧ True) ∧ (2 * l2 = 2 * l2 ∧ l2 ≤ 1000000) ∧
(List.length [SV.slcc 10 l0, SV.slcc 11 l1] = 2 ∧ 72 ≤ 140737488355328 ∧ 3 ≤ 9223372036854775807) ∧ true = true ∧ ∃ (_ : Nat), True ∧ ((True ∧ 0 = 0) ∧ (True ∧ 0 = 0) ∧ (True ∧ 4 = 4) ∧ (4 : Int) = 4 ∧ (3 : Int) = 3 ∧ True) ∧ True ∧ ((True ∧ l0 = l0) ∧ (True ∧ l1 = l1) ∧ (True ∧ l2 = l2) ∧ (True ∧ l3 = l3) ∧ True) ∧ True ∧ (2 * l0 ≤ 2 * l0 ∧ ∀ (i : Nat), i < 2 * l0 → g0 i = g0 i) ∧ True ∧ (2 * l1 ≤ 2 * l1 ∧ ∀ (i : Nat), i < 2 * l1 → g1 i = g1 i) ∧ True ∧ (2 * l2 ≤ 2 * l2 ∧ ∀ (i : Nat), i < 2 * l2 → g2 i = g2 i) ∧ True ∧ (2 * l3 ≤ 2 * l3
∧ ∀ (i : Nat), i < 2 * l3 → g3 i = g3 i) ∧ True ∧ (39 = 39 ∧ 0 = 0 ∧ (3 : Int) = 3 ∧ (True ∧ len = len) ∧ (True ∧ 3 = 3) ∧ True) ∧ True ∧ (23 = 23 ∧ 2 = 2
∧ 2 * len ≤ 2 * len ∧ ∀ (i : Nat), i < 2 * len → g i = g i) ∧ True ∧ (39 = 39 ∧ 0 = 0 ∧ (0 : Int) = 0 ∧ True ∧ True ∧ True) ∧ True ∧ (25 = 25 ∧ 1 = 1 ∧
(True ∧ l0 = l0) ∧ (True ∧ l1 = l1) ∧ (True ∧ l2 = l2) ∧ True) ∧ True ∧ (23 = 23 ∧ 2 = 2 ∧ 2 * l0 ≤ 2 * l0 ∧ ∀ (i : Nat), i < 2 * l0 → g0 i = g0 i) ∧ True ∧ (23 = 23 ∧ 2
= 2 ∧ 2 * l1 ≤ 2 * l1 ∧ ∀ (i : Nat), i < 2 * l1 → g1 i = g1 i) ∧ True ∧ (23 = 23 ∧ 2 = 2 ∧ 2 * l2 ≤ 2 * l2 ∧ ∀ (i : Nat), i < 2 * l2 → g2 i = g2 i) ∧ True) ∧
(true = false → ((3 : Int) = 3 ∧ (True ∧ len = len) ∧ (True ∧ 2 = 4) ∧ True) ∧ True ∧ (23 = 23 ∧ 2 = 2 ∧ 2 * len ≤ 2 * len ∧ ∀ (i : Nat), i < 2 * len → g i = g i) ∧ True
∧ (25 = 25 ∧ 1 = 1 ∧ (True ∧ l0 = l0) ∧ (True ∧ l1 = l1) ∧ False) ∧ True ∧ (23 = 23 ∧ 2 = 2 ∧ 2 * l0 ≤ 2 * l0 ∧ ∀ (i : Nat), i < 2 * l0 → g0 i = g0 i) ∧ True ∧
(23 = 23 ∧ 2 = 2 ∧ 2 * l1 ≤ 2 * l1 ∧ ∀ (i : Nat), i < 2 * l1 → g1 i = g1 i) ∧ True ∧ 2 * l2 = 0 ∧ True ∧ 2 * l3 = 0 ∧ True)) ∧ (∀ (_ : Nat), True → (true = true →
(((0 : Int) ≤ 3 ∧ (3 : Int) < 4) ∧ True) ∧ (2 * l3 = 2 * l3 ∧ l3 ≤ 1000000) ∧ (List.length [SV.slcc 10 l0, SV.slcc 11 l1, SV.slcc 12 l2] = 3 ∧ 96 ≤ 140737488355328 ∧ 4 ≤ 9223372036854775807) ∧ true = true ∧ ∃ (_ : Nat), True ∧ ((True ∧ 0 = 0) ∧ (True ∧ 0 = 0) ∧ (True ∧ 4 = 4) ∧ (4 : Int) = 4 ∧ (4 : Int) = 4 ∧ True) ∧ True ∧
((True ∧ l0 = l0) ∧ (True ∧ l1 = l1) ∧ (True ∧ l2 = l2) ∧ (True ∧ l3 = l3) ∧ True) ∧ True ∧ (2 * l0 ≤ 2 * l0 ∧ ∀ (i : Nat), i < 2 * l0 → g0 i = g0 i) ∧ True ∧ (2 * l1 ≤ 2 * l1 ∧ ∀ (i : Nat), i < 2 * l1
→ g1 i = g1 i) ∧ True ∧ (2 * l2 ≤ 2 * l2 ∧ ∀ (i : Nat), i < 2 * l2 → g2 i = g2 i) ∧ True ∧ (2 * l3 ≤ 2 * l3 ∧ ∀ (i : Nat), i < 2 * l3 → g3 i = g3 i) ∧ True ∧ (39 = 39 ∧ 0 = 0 ∧ (3 : Int) = 3 ∧ (True ∧ len = len) ∧ (True ∧ 4 = 4) ∧ True) ∧ True ∧ (23 = 23 ∧ 2 = 2 ∧ 2 * len ≤ 2 * len ∧ ∀ (i : Nat), i < 2 * len → g i = g i) ∧ True ∧ (39 = 39 ∧ 0 = 0 ∧ (0 : Int) = 0 ∧ True ∧ True ∧ True) ∧ True ∧ (25 = 25 ∧ 1 = 1 ∧ (True ∧ l0 = l0) ∧ (True ∧ l1 = l1) ∧ (True ∧ l2 = l2) ∧ (True ∧ l3 = l3) ∧ True) ∧ True ∧ (23
= 23 ∧ 2 = 2 ∧ 2 * l0 ≤ 2 * l0 ∧ ∀ (i : Nat), i < 2 * l0 → g0 i = g0 i) ∧ True ∧ (23 = 23 ∧ 2 = 2 ∧ 2 * l1 ≤ 2 * l1 ∧ ∀ (i : Nat), i < 2 * l1 → g1
 i = g1 i) ∧ True ∧ (23 = 23 ∧ 2 = 2 ∧ 2 * l2 ≤ 2 * l2 ∧ ∀ (i : Nat), i < 2 * l2 → g2 i = g2 i) ∧ True ∧ (23 = 23 ∧ 2 = 2 ∧ 2 * l3 ≤ 2 * l3 ∧ ∀ (i
: Nat), i < 2 * l3 → g3 i = g3 i) ∧ True) ∧ (true = false → ((3 : Int) = 3 ∧ (True ∧ len = len) ∧ (True ∧ 3 = 4) ∧ True) ∧ True ∧ (23 = 23 ∧ 2 = 2 ∧ 2 * len ≤ 2 * len ∧ ∀
(i : Nat), i < 2 * len → g i = g i) ∧ True ∧ (25 = 25 ∧ 1 = 1 ∧ (True ∧ l0 = l0) ∧ (True ∧ l1 = l1) ∧ (True ∧ l2 = l2) ∧ False) ∧ True ∧ (23 = 23 ∧ 2 = 2 ∧ 2 * l0 ≤ 2 * l0 ∧ ∀ (i : Nat), i < 2 * l0 → g0 i = g0 i) ∧ True ∧ (23 = 23 ∧ 2 = 2 ∧ 2 * l1 ≤ 2 * l1 ∧ ∀ (i : Nat), i < 2 * l1 → g1 i = g1 i) ∧ True ∧ (23 = 23 ∧ 2 = 2 ∧ 2 * l2 ≤ 2 * l2 ∧ ∀ (i : Nat), i < 2 * l2 → g2 i = g2 i) ∧ True ∧ 2 * l3 = 0 ∧ True)) ∧ (∀ (_ : Nat), True → (false = true → (((0 : Int) ≤ 4 ∧ (4 : Int) < 4) ∧ True) ∧ False) ∧ (false =
 false → ((3 : Int) = 3 ∧ (True ∧ len = len) ∧ (True ∧ 4 = 4) ∧ True) ∧ True ∧ (23 = 23 ∧ 2 = 2 ∧ 2 * len ≤ 2 * len ∧ ∀ (i : Nat), i < 2 * len → g i = g i) ∧ True ∧ (25 = 25 ∧ 1 = 1 ∧ (True ∧ l0 = l0) ∧ (True ∧ l1 = l1) ∧ (True ∧ l2 = l2) ∧ (True ∧ l3 = l3) ∧ True) ∧ True ∧ (23 = 23 ∧ 2 = 2 ∧ 2 * l0 ≤ 2 * l0 ∧ ∀ (i : Nat), i < 2 *
 l0 → g0 i = g0 i) ∧ True ∧ (23 = 23 ∧ 2 = 2 ∧ 2 * l1 ≤ 2 * l1 ∧ ∀ (i : Nat), i < 2 * l1 → g1 i = g1 i) ∧ True ∧ (23 = 23 ∧ 2 = 2 ∧ 2 * l2 ≤ 2 * l2
∧ ∀ (i : Nat), i < 2 * l2 → g2 i = g2 i) ∧ True ∧ (23 = 23 ∧ 2 = 2 ∧ 2 * l3 ≤ 2 * l3 ∧ ∀ (i : Nat), i < 2 * l3 → g3 i = g3 i) ∧ True)) ∧ True) := by kernel_rfl
theorem pSh4 : ConOk Tryz.prog 48 (conR pSh4C) := by
 refine con_of_vc gPS1 Tryz.func48 rfl (by kernel_rfl) fun args => ?_
 unfold pSh4C
 split
 · rename_i n len h
   intro o0
   show RdM.All _ (match intsFrom .i64 o0.c with | some (m, g) => _ | none => _) _
   split
   · rename_i m0 g hm0
     intro o1
     show RdM.All _ (match hol4 o1.c with | some (q0, l0, q1, l1, q2, l2, q3, l3) => _ | none => _) _
     split
     · rename_i q0 l0 q1 l1 q2 l2 q3 l3 hm1
       intro o2
       show RdM.All _ (match intsFrom .i64 o2.c with | some (m, g) => _ | none => _) _
       split
       · rename_i m2 g0 hm2
         intro o3
         show RdM.All _ (match intsFrom .i64 o3.c with | some (m, g) => _ | none => _) _
         split
         · rename_i m3 g1 hm3
           intro o4
           show RdM.All _ (match intsFrom .i64 o4.c with | some (m, g) => _ | none => _) _
           split
           · rename_i m4 g2 hm4
             intro o5
             show RdM.All _ (match intsFrom .i64 o5.c with | some (m, g) => _ | none => _) _
             split
             · rename_i m5 g3 hm5
               intro ho
               replace ho : m0 = 2 * len ∧ m2 = 2 * l0 ∧ m3 = 2 * l1 ∧ m4 = 2 * l2 ∧ m5 = 2 * l3 ∧ len ≤ 1000000 ∧ l0 ≤ 1000000 ∧ l1 ≤ 1000000 ∧ l2 ≤ 1000000 ∧ l3 ≤ 1000000 := ho
               obtain ⟨hsz0, hsz2, hsz3, hsz4, hsz5, ho⟩ := ho
               subst hsz0
               subst hsz2
               subst hsz3
               subst hsz4
               subst hsz5
               refine ⟨?_, _, _, (vc_pSh4 len l0 l1 l2 l3 q0 q1 q2 q3 g g0 g1 g2 g3).mpr ?_⟩
               · refine okFlag_mk rfl ⟨?_, ⟨trivial, (contR_ints hm0).1, ⟨trivial, hol4_spec hm1 (by simp [sgSig, fsts, nth, sameN_self]) (by simp [sgSig, fsts, nth, sameN_self]) (by simp [sgSig, fsts, nth, sameN_self]) (by simp [sgSig, fsts, nth, sameN_self]), ⟨trivial, (contR_ints hm2).1, ⟨trivial, (contR_ints hm3).1, ⟨trivial, (contR_ints hm4).1, ⟨trivial, (contR_ints hm5).1, trivial⟩⟩⟩⟩⟩⟩⟩
                 simp [eqvRL, eqvR, sgSig, fsts, nth, sameN_self]
               · simp [ho]
             · trivial
           · trivial
         · trivial
       · trivial
     · trivial
   · trivial
 · trivial
noncomputable def nPo1C : List SV → RdM
 | [.slcc n len, .slcc h 1, .ptr o 0] => .read n fun o0 => (match fltsFrom .f64 o0.c with
   | some (m0, g) => .read h fun o1 => (match hol1 o1.c with
   | some (q0, l0) => .read q0 fun o2 => (match fltsFrom .f64 o2.c with
   | some (m2, g0) => .read o fun o3 => (match optOf o3.c with
   | some (km, mm) => .ret ⟨[.slcc 0 len, .slcc 1 1, .ptr 3 0], [(0, ⟨false, 100, .flts .f64 m0 g, 0⟩), (1, ⟨false, 118, .cells [.slcc 2 l0], 0⟩), (2, ⟨false, 100, .flts .f64 m2 g0, 0⟩), (3, ⟨false, 148, optC km mm, 0⟩)], .ptr 4 0, [], [(4, ⟨true, 137, .cells [.ifc 157 (.ptr 6 0), .slcc 5 1], 0⟩), (5, ⟨true, 106, .cells [.ifc 157 (.ptr 8 0)], 1⟩), (6, ⟨true, 150, .cells (rectS len true g 7 0), 0⟩), (7, ⟨true, 100, .flts .f64 (2 * len) g, 2⟩), (8, ⟨true, 150, .cells (rectS l0 true g0 9 0), 0⟩), (9, ⟨true, 100, .flts .f64 (2 * l0) g0, 2⟩)], some (m0 = 2 * len ∧ m2 = 2 * l0 ∧ km = 0 ∧ (len ≤ 1000000 ∧ (ppBig len true = true → ppOk g len)) ∧ (l0 ≤ 1000000 ∧ (ppBig l0 true = true → ppOk g0 l0)))⟩
   | none => .fail)
   | none => .fail)
   | none => .fail)
   | none => .fail)
 | _ => .fail
theorem vc_nPo1 (len : Nat) (km mm : Int) (l0 : Nat) (_ : Nm)  (g : Nat → Nat) (g0 : Nat → Nat) : runA GNP 4 [(6, .unr [⟨Nat, fun _ => ⟨44, [(1, .slcc 1 1), (2, .ptr 3 0), (7, .ptr 4 0), (26, .int .i64 1), (27, .int .i64 0)], [(1, ⟨false, 118, .cells [.slcc 2 l0], 0⟩), (2, ⟨false, 100, .flts .f64 (2 * l0) g0, 0⟩), (3, ⟨false, 148, optC km mm, 0⟩), (4, ⟨true, 137, .cells [.ifc 157 (.ptr 6 0), .slcc 5 1], 0⟩), (5, ⟨true, 106, .cells [.nili], 1⟩), (6, ⟨true, 150, .cells (rectS len true g 7 0), 0⟩), (7, ⟨true, 100, .flts .f64 (2 * len) g, 2⟩)], 8⟩, fun _ => True, fun _ => 0⟩, ⟨Nat, fun _ => ⟨44, [(1, .slcc 1 1), (2, .ptr 3 0), (7, .ptr 4 0), (26, .int .i64 1), (27, .int .i64 1)], [(1, ⟨false, 118, .cells [.slcc 2 l0], 0⟩), (2, ⟨false, 100, .flts .f64 (2 * l0) g0, 0⟩), (3, ⟨false, 148, optC km mm, 0⟩), (4, ⟨true, 137, .cells [.ifc 157 (.ptr 6 0), .slcc 5 1], 0⟩), (5, ⟨true, 106, .cells [.ifc 157 (.ptr 8 0)], 1⟩), (6, ⟨true, 150, .cells (rectS len true g 7 0), 0⟩), (7, ⟨true, 100, .flts .f64 (2 * len) g, 2⟩), (8, ⟨true, 150, .cells (rectS l0 true g0 9 0), 0⟩), (9, ⟨true, 100, .flts .f64 (2 * l0) g0, 2⟩)], 10⟩, fun _ => True, fun _ => 0⟩])] [] (codeOf Tryz.f91) (init Tryz.f91.ntmps [.slcc 0 len, .slcc 1 1, .ptr 3 0] [(0, ⟨false, 100, .flts .f64 (2 * len) g, 0⟩), (1, ⟨false, 118, .cells [.slcc 2 l0], 0⟩), (2, ⟨false, 100, .flts .f64 (2 * l0) g0, 0⟩), (3, ⟨false, 148, optC km mm, 0⟩)] 4) (endK GNP.E.T Tryz.f91.results.toList fun S v => postP 4 ⟨[.slcc 0 len, .slcc 1 1, .ptr 3 0], [(0, ⟨false, 100, .flts .f64 (2 * len) g, 0⟩), (1, ⟨false, 118, .cells [.slcc 2 l0], 0⟩), (2, ⟨false, 100, .flts .f64 (2 * l0) g0, 0⟩), (3, ⟨false, 148, optC km mm, 0⟩)], .ptr 4 0, [], [(4, ⟨true, 137, .cells [.ifc 157 (.ptr 6 0), .slcc 5 1], 0⟩), (5, ⟨true, 106, .cells [.ifc 157 (.ptr 8 0)], 1⟩), (6, ⟨true, 150, .cells (rectS len true g 7 0), 0⟩), (7, ⟨true, 100, .flts .f64 (2 * len) g, 2⟩), (8, ⟨true, 150, .cells (rectS l0 true g0 9 0), 0⟩), (9, ⟨true, 100, .flts .f64 (2 * l0) g0, 2⟩)], some (2 * len = 2 * len ∧ 2 * l0 = 2 * l0 ∧ km = 0 ∧ (len ≤ 1000000 ∧ (ppBig len true = true → ppOk g len)) ∧ (l0 ≤ 1000000 ∧ (ppBig l0 true = true → ppOk g0 l0)))⟩ S v) = (
(2 * len = 2 * len ∧ km = (0 : Int) ∧ len ≤ 1000000 ∧ (ppBig len true = true → ppOk g len)) ∧ (true = true → ((1 : Int) = 1 ∧ (0 : Int) ≤ 1 ∧ (1 : Int) ≤ (9223372036854775807
: Int) ∧ (16 : Int) ≤ 140737488355328) ∧ (∃ (_ : Nat), True ∧ ((True ∧ 1 = 1) ∧ (True ∧ 0 = 0) ∧ (True ∧ 0 = 0) ∧ (1 : Int) = 1 ∧ (0 : Int) = 0 ∧ True) ∧ True ∧ ((True ∧ l0 = l0)
∧ True) ∧ True ∧ (2 * l0 ≤ 2 * l0 ∧ ∀ (i : Nat), i < 2 * l0 → g0 i = g0 i) ∧ True ∧ (km = km ∧ mm = mm ∧ True) ∧ True ∧ (137 = 137 ∧ 0 = 0 ∧ (True ∧ 0 = 0) ∧ (True ∧ 1 =
1) ∧ True) ∧ True ∧ (106 = 106 ∧ 1 = 1 ∧ True ∧ True) ∧ True ∧ (150 = 150 ∧ 0 = 0 ∧ true = true ∧ (ppBig len true && fGt .f64 (cwF g len
 len) 0) = (ppBig len true && fGt .f64 (cwF g len len) 0) ∧ (ppBig len true && !(dcF g len len).2) = (ppBig len true && !Prod.snd
(dcF g len len)) ∧ (0 : Int) = 0 ∧ True ∧ pick (ppBig len true) (rlo g 0 len) = pick (ppBig len true) (rlo g
0 len) ∧ pick (ppBig len true) (rlo g 1 len) = pick (ppBig len true) (rlo g 1 len) ∧ pick
(ppBig len true) (rhi g 0 len) = pick (ppBig len true) (rhi g 0 len) ∧ pick (ppBig len true)
(rhi g 1 len) = pick (ppBig len true) (rhi g 1 len) ∧ (True ∧ len = len) ∧ True) ∧ True ∧ (100 = 100 ∧ 2 = 2 ∧ 2 * len ≤
2 * len ∧ ∀ (i : Nat), i < 2 * len → g i = g i) ∧ True) ∧ (∀ (_ : Nat), True → (true = true → (((0 : Int) ≤ 0 ∧ (0 : Int) < 1) ∧ True) ∧ (2 * l0 = 2 * l0 ∧ km = (0 : Int) ∧ l0 ≤ 1000000 ∧
(ppBig l0 true = true → ppOk g0 l0)) ∧ (((0 : Int) ≤ 0 ∧ (0 : Int) < 1) ∧ True) ∧ true = true ∧ ∃ (_ : Nat), True ∧ ((True ∧ 1 = 1) ∧ (True ∧ 0 = 0) ∧ (True ∧ 0 = 0) ∧ (1 : Int) = 1 ∧ (1 : Int) = 1 ∧ True) ∧ True ∧ ((True ∧ l0 = l0) ∧ True) ∧ True ∧ (2 * l0 ≤ 2 * l0 ∧ ∀ (i : Nat), i < 2 * l0 → g0 i = g0 i) ∧ True ∧ (km = km ∧ mm = mm ∧ True) ∧ True ∧ (137 = 137 ∧ 0 = 0 ∧ (True ∧ 0 = 0) ∧ (True ∧ 1 = 1) ∧ True) ∧ True ∧ (106 = 106 ∧ 1 = 1 ∧ (True ∧ 0 = 0) ∧ True) ∧ True ∧ (150 = 150 ∧ 0 = 0 ∧ true = true ∧ (ppBig len true && fGt .f64 (cwF g len len) 0) = (ppBig len true && fGt .f64 (cwF g len len) 0) ∧
(ppBig len true && !(dcF g len len).2) = (ppBig len true && !(dcF g len len).2) ∧ (0 : Int) = 0 ∧ True ∧ pick (ppBig len
 true) (rlo g 0 len) = pick (ppBig len true) (rlo g 0 len) ∧ pick (ppBig len true) (rlo g 1 len) =
 pick (ppBig len true) (rlo g 1 len) ∧ pick (ppBig len true) (rhi g 0 len) = pick (ppBig
 len true) (rhi g 0 len) ∧ pick (ppBig len true) (rhi g 1 len) = pick (ppBig len true) (rhi g 1 len)
∧ (True ∧ len = len) ∧ True) ∧ True ∧ (100 = 100 ∧ 2 = 2 ∧ 2 * len ≤ 2 * len ∧ ∀ (i : Nat), i < 2 * len → g i = g i) ∧ True ∧ (150 = 150 ∧ 0 = 0 ∧ true = true ∧
(ppBig l0 true && fGt .f64 (cwF g0 l0 l0) 0) = (ppBig l0 true && fGt .f64 (cwF g0 l0 l0) 0) ∧ (ppBig l0 true && !Prod.snd
(dcF g0 l0 l0)) = (ppBig l0 true && !(dcF g0 l0 l0).2) ∧ (0 : Int) = 0 ∧ True ∧ pick (ppBig l0 true) (rlo g0 0 l0) =
 pick (ppBig l0 true) (rlo g0 0 l0) ∧ pick (ppBig l0 true) (rlo g0 1 l0) = pick (ppBig l0
 true) (rlo g0 1 l0) ∧ pick (ppBig l0 true) (rhi g0 0 l0) = pick (ppBig l0 true) (rhi g0 0 l0) ∧
 pick (ppBig l0 true) (rhi g0 1 l0) = pick (ppBig l0 true) (rhi g0 1 l0) ∧ (True ∧ l0 = l0) ∧ True) ∧ True ∧ (100 =
100 ∧ 2 = 2 ∧ 2 * l0 ≤ 2 * l0 ∧ ∀ (i : Nat), i < 2 * l0 → g0 i = g0 i) ∧ True) ∧ (true = false → (True ∧ 0 = 0) ∧ True ∧ (137 = 137 ∧ 0 = 0 ∧ (True ∧ 0 = 0) ∧ (True ∧ 1 = 1) ∧ True) ∧ True ∧ (106 = 106 ∧ 1 = 1 ∧ False ∧ True) ∧ True ∧ (150 = 150 ∧ 0 = 0 ∧ true = true ∧ (ppBig len true &&
 fGt .f64 (cwF g len len) 0) = (ppBig len true && fGt .f64 (cwF g len len) 0) ∧ (ppBig len true && !(dcF g len len).2) =
(ppBig len true && !(dcF g len len).2) ∧ (0 : Int) = 0 ∧ True ∧ pick (ppBig len true) (rlo g 0 len) = pick
(ppBig len true) (rlo g 0 len) ∧ pick (ppBig len true) (rlo g 1 len) = pick (ppBig len true)
(rlo g 1 len) ∧ pick (ppBig len true) (rhi g 0 len) = pick (ppBig len true) (rhi g 0 len) ∧
 pick (ppBig len true) (rhi g 1 len) = pick (ppBig len true) (rhi g 1 len) ∧ (True ∧ len = len) ∧ True) ∧ True ∧ (100 =
100 ∧ 2 = 2 ∧ 2 * len ≤ 2 * len ∧ ∀ (i : Nat), i < 2 * len → g i = g i) ∧ True ∧ List.length (rectS l0 true g0 9 (0 : Int)) = 0 ∧ True ∧ 2 * l0 = 0 ∧
 True)) ∧ (∀ (_ : Nat), True → (false = true → False) ∧ (false = false → (True ∧ 0 = 0) ∧ True ∧ (137 = 137 ∧ 0 = 0 ∧ (True ∧ 0 = 0) ∧ (True ∧ 1 = 1) ∧ True) ∧ True ∧
(106 = 106 ∧ 1 = 1 ∧ (True ∧ 0 = 0) ∧ True) ∧ True ∧ (150 = 150 ∧ 0 = 0 ∧ true = true ∧ (ppBig len true && fGt .f64 (cwF g len
 len) 0) = (ppBig len true && fGt .f64 (cwF g len len) 0) ∧ (ppBig len true && !(dcF g len len).2) = (ppBig len true && !Prod.snd
(dcF g len len)) ∧ (0 : Int) = 0 ∧ True ∧ pick (ppBig len true) (rlo g 0 len) = pick (ppBig len true) (rlo g
0 len) ∧ pick (ppBig len true) (rlo g 1 len) = pick (ppBig len true) (rlo g 1 len) ∧ pick
(ppBig len true) (rhi g 0 len) = pick (ppBig len true) (rhi g 0 len) ∧ pick (ppBig len true)
(rhi g 1 len) = pick (ppBig len true) (rhi g 1 len) ∧ (True ∧ len = len) ∧ True) ∧ True ∧ (100 = 100 ∧ 2 = 2 ∧ 2 * len ≤
2 * len ∧ ∀ (i : Nat), i < 2 * len → g i = g i) ∧ True ∧ (150 = 150 ∧ 0 = 0 ∧ true = true ∧ (ppBig l0 true && fGt .f64 (cwF g0 l0 l0) 0) =
(ppBig l0 true && fGt .f64 (cwF g0 l0 l0) 0) ∧ (ppBig l0 true && !(dcF g0 l0 l0).2) = (ppBig l0 true && !(dcF g0
 l0 l0).2) ∧ (0 : Int) = 0 ∧ True ∧ pick (ppBig l0 true) (rlo g0 0 l0) = pick (ppBig l0 true) (rlo g0 0 l0) ∧
 pick (ppBig l0 true) (rlo g0 1 l0) = pick (ppBig l0 true) (rlo g0 1 l0) ∧ pick (ppBig l0
 true) (rhi g0 0 l0) = pick (ppBig l0 true) (rhi g0 0 l0) ∧ pick (ppBig l0 true) (rhi g0 1 l0) =
 pick (ppBig l0 true) (rhi g0 1 l0) ∧ (True ∧ l0 = l0) ∧ True) ∧ True ∧ (100 = 100 ∧ 2 = 2 ∧ 2 * l0 ≤ 2 * l0 ∧ ∀ (i : Nat), i < 2 *
 l0 → g0 i = g0 i) ∧ True)) ∧ True) ∧ (true = false → (True ∧ 0 = 0) ∧ True ∧ (137 = 137 ∧ 0 = 0 ∧ (True ∧ 0 = 0) ∧ 1 = 0 ∧ True) ∧ True ∧ 1 = 0 ∧ True ∧
(150 = 150 ∧ 0 = 0 ∧ true = true ∧ (ppBig len true && fGt .f64 (cwF g len len) 0) = (ppBig len true && fGt .f64 (cwF g len
 len) 0) ∧ (ppBig len true && !(dcF g len len).2) = (ppBig len true && !(dcF g len len).2) ∧ (0 : Int) = 0 ∧ True ∧ pick
(ppBig len true) (rlo g 0 len) = pick (ppBig len true) (rlo g 0 len) ∧ pick (ppBig len true)
(rlo g 1 len) = pick (ppBig len true) (rlo g 1 len) ∧ pick (ppBig len true) (rhi g 0 len) =
 pick (ppBig len true) (rhi g 0 len) ∧ pick (ppBig len true) (rhi g 1 len) = pick (ppBig
 len true) (rhi g 1 len) ∧ (True ∧ len = len) ∧ True) ∧ True ∧ (100 = 100 ∧ 2 = 2 ∧ 2 * len ≤ 2 * len ∧ ∀ (i : Nat), i < 2 * len → g i = g i) ∧ True ∧ List.length
(rectS l0 true g0 9 (0 : Int)) = 0 ∧ True ∧ 2 * l0 = 0 ∧ True)) := by kernel_rfl
theorem nPo1 : ConOk Tryz.prog 91 (conR nPo1C) := by
 refine con_of_vc gNP Tryz.func91 rfl (by kernel_rfl) fun args => ?_
 unfold nPo1C
 split
 · rename_i n len h o
   intro o0
   show RdM.All _ (match fltsFrom .f64 o0.c with | some (m, g) => _ | none => _) _
   split
   · rename_i m0 g hm0
     intro o1
     show RdM.All _ (match hol1 o1.c with | some (q0, l0) => _ | none => _) _
     split
     · rename_i q0 l0 hm1
       intro o2
       show RdM.All _ (match fltsFrom .f64 o2.c with | some (m, g) => _ | none => _) _
       split
       · rename_i m2 g0 hm2
         intro o3
         show RdM.All _ (match optOf o3.c with | some (km, mm) => _ | none => _) _
         split
         · rename_i km mm hm3
           intro ho
           replace ho : m0 = 2 * len ∧ m2 = 2 * l0 ∧ km = 0 ∧ (len ≤ 1000000 ∧ (ppBig len true = true → ppOk g len)) ∧ (l0 ≤ 1000000 ∧ (ppBig l0 true = true → ppOk g0 l0)) := ho
           obtain ⟨hsz0, hsz2, ho⟩ := ho
           subst hsz0
           subst hsz2
           refine ⟨?_, _, _, (vc_nPo1 len km mm l0 q0 g g0).mpr ?_⟩
           · refine okFlag_mk rfl ⟨?_, ⟨trivial, (contR_flts hm0).1, ⟨trivial, hol1_spec hm1 (by simp [sgSig, fsts, nth, sameN_self]), ⟨trivial, (contR_flts hm2).1, ⟨trivial, optOf_spec hm3, trivial⟩⟩⟩⟩⟩
             simp [eqvRL, eqvR, sgSig, fsts, nth, sameN_self]
           · obtain ⟨hk, ⟨h1, h2⟩, a0, b0⟩ := ho
             simp [hk, h1, a0]
             exact ⟨h2, b0⟩
         · trivial
       · trivial
     · trivial
   · trivial
 · trivial
noncomputable def GSP1 : Ctx := ⟨⟨tys, []⟩, [(74, conR ptsC), (91, conR nPo1C)]⟩
theorem gSP1 : CtxOk Tryz.prog GSP1 := ⟨⟨tysOk, FlatsOk.nil⟩, GamOk.cons pts (GamOk.cons nPo1 GamOk.nil), by kernel_rfl⟩
noncomputable def shP1C : List SV → RdM
 | [.agg [.int .i64 3, .slcc n len, .slcc h 1], .ptr o 0] => .read n fun o0 => (match intsFrom .i64 o0.c with
   | some (m0, g) => .read h fun o1 => (match hol1 o1.c with
   | some (q0, l0) => .read q0 fun o2 => (match intsFrom .i64 o2.c with
   | some (m2, g0) => .read o fun o3 => (match optOf o3.c with
   | some (km, mm) => .ret ⟨[.agg [.int .i64 3, .slcc 0 len, .slcc 1 1], .ptr 3 0], [(0, ⟨false, 23, .ints .i64 m0 g, 0⟩), (1, ⟨false, 25, .cells [.slcc 2 l0], 0⟩), (2, ⟨false, 23, .ints .i64 m2 g0, 0⟩), (3, ⟨false, 148, optC km mm, 0⟩)], .ifc 121 (.ptr 4 0), [], [(4, ⟨true, 137, .cells [.ifc 157 (.ptr 6 0), .slcc 5 1], 0⟩), (5, ⟨true, 106, .cells [.ifc 157 (.ptr 8 0)], 1⟩), (6, ⟨true, 150, .cells (rectS len true (fI g) 7 0), 0⟩), (7, ⟨true, 100, .flts .f64 (2 * len) (fI g), 2⟩), (8, ⟨true, 150, .cells (rectS l0 true (fI g0) 9 0), 0⟩), (9, ⟨true, 100, .flts .f64 (2 * l0) (fI g0), 2⟩)], some (m0 = 2 * len ∧ m2 = 2 * l0 ∧ km = 0 ∧ (len ≤ 1000000 ∧ (ppBig len true = true → ppOk (fI g) len)) ∧ (l0 ≤ 1000000 ∧ (ppBig l0 true = true → ppOk (fI g0) l0)))⟩
   | none => .fail)
   | none => .fail)
   | none => .fail)
   | none => .fail)
 | _ => .fail
theorem vc_shP1 (len : Nat) (km mm : Int) (l0 : Nat) (_ : Nm)  (g : Nat → Int) (g0 : Nat → Int) : runA GSP1 4 [(9, .unr [⟨Nat, fun _ => ⟨53, [(1, .ptr 3 0), (2, .ptr 4 0), (5, .nils), (30, .slcc 1 1), (31, .int .i64 1), (32, .int .i64 0)], [(0, ⟨false, 23, .ints .i64 (2 * len) g, 0⟩), (1, ⟨false, 25, .cells [.slcc 2 l0], 0⟩), (2, ⟨false, 23, .ints .i64 (2 * l0) g0, 0⟩), (3, ⟨false, 148, optC km mm, 0⟩), (4, ⟨true, 39, .cells [.int .i64 3, .slcc 0 len, .slcc 1 1], 0⟩)], 5⟩, fun _ => True, fun _ => 0⟩, ⟨Nat, fun _ => ⟨53, [(1, .ptr 3 0), (2, .ptr 4 0), (5, .slcc 5 1), (30, .slcc 1 1), (31, .int .i64 1), (32, .int .i64 1)], [(0, ⟨false, 23, .ints .i64 (2 * len) g, 0⟩), (1, ⟨false, 25, .cells [.slcc 2 l0], 0⟩), (2, ⟨false, 23, .ints .i64 (2 * l0) g0, 0⟩), (3, ⟨false, 148, optC km mm, 0⟩), (4, ⟨true, 39, .cells [.int .i64 3, .slcc 0 len, .slcc 1 1], 0⟩), (5, ⟨true, 118, .cells [.slcc 6 l0], 1⟩), (6, ⟨true, 100, .flts .f64 (2 * l0) (fI g0), 2⟩)], 7⟩, fun _ => True, fun _ => 0⟩])] [] (codeOf Tryz.f63) (init Tryz.f63.ntmps [.agg [.int .i64 3, .slcc 0 len, .slcc 1 1], .ptr 3 0] [(0, ⟨false, 23, .ints .i64 (2 * len) g, 0⟩), (1, ⟨false, 25, .cells [.slcc 2 l0], 0⟩), (2, ⟨false, 23, .ints .i64 (2 * l0) g0, 0⟩), (3, ⟨false, 148, optC km mm, 0⟩)] 4) (endK GSP1.E.T Tryz.f63.results.toList fun S v => postP 4 ⟨[.agg [.int .i64 3, .slcc 0 len, .slcc 1 1], .ptr 3 0], [(0, ⟨false, 23, .ints .i64 (2 * len) g, 0⟩), (1, ⟨false, 25, .cells [.slcc 2 l0], 0⟩), (2, ⟨false, 23, .ints .i64 (2 * l0) g0, 0⟩), (3, ⟨false, 148, optC km mm, 0⟩)], .ifc 121 (.ptr 4 0), [], [(4, ⟨true, 137, .cells [.ifc 157 (.ptr 6 0), .slcc 5 1], 0⟩), (5, ⟨true, 106, .cells [.ifc 157 (.ptr 8 0)], 1⟩), (6, ⟨true, 150, .cells (rectS len true (fI g) 7 0), 0⟩), (7, ⟨true, 100, .flts .f64 (2 * len) (fI g), 2⟩), (8, ⟨true, 150, .cells (rectS l0 true (fI g0) 9 0), 0⟩), (9, ⟨true, 100, .flts .f64 (2 * l0) (fI g0), 2⟩)], some (2 * len = 2 * len ∧ 2 * l0 = 2 * l0 ∧ km = 0 ∧ (len ≤ 1000000 ∧ (ppBig len true = true → ppOk (fI g) len)) ∧ (l0 ≤ 1000000 ∧ (ppBig l0 true = true → ppOk (fI g0) l0)))⟩ S v) = (
(false = true → False) ∧ (false = false → (false = true → (2 * len = 2 * len ∧ len ≤ 1000000) ∧ False) ∧ (false = false → (true = true → (∃ (_ : Nat), True ∧ ((True ∧ 0 = 0) ∧ (True ∧ 0 = 0) ∧
 True ∧ (True ∧ 1 = 1) ∧ (1 : Int) = 1 ∧ (0 : Int) = 0 ∧ True) ∧ True ∧ (2 * len ≤ 2 * len ∧ ∀ (i : Nat), i < 2 * len → g i = g i) ∧ True ∧ ((True ∧ l0 = l0) ∧ True) ∧ True ∧ (2 * l0 ≤ 2 * l0 ∧ ∀ (i : Nat), i < 2 * l0 → g0 i = g0 i) ∧ True ∧ (km = km ∧ mm = mm ∧ True) ∧ True ∧ (39 = 39 ∧ 0 = 0 ∧ (3 : Int) = 3 ∧ (True ∧ len = len) ∧ (True ∧ 1 = 1) ∧ True) ∧ True) ∧
(∀ (_ : Nat), True → (true = true → (((0 : Int) ≤ 0 ∧ (0 : Int) < 1) ∧ True) ∧ (2 * l0 = 2 * l0 ∧ l0 ≤ 1000000) ∧ ∃ (_ : Nat), True ∧ ((True ∧ 0 = 0) ∧ (True ∧ 0 = 0) ∧ (True ∧
1 = 1) ∧ (True ∧ 1 = 1) ∧ (1 : Int) = 1 ∧ (1 : Int) = 1 ∧ True) ∧ True ∧ (2 * len ≤ 2 * len ∧ ∀ (i : Nat), i < 2 * len → g i = g i) ∧ True ∧ ((True ∧ l0 = l0) ∧ True) ∧ True ∧
(2 * l0 ≤ 2 * l0 ∧ ∀ (i : Nat), i < 2 * l0 → g0 i = g0 i) ∧ True ∧ (km = km ∧ mm = mm ∧ True) ∧ True ∧ (39 = 39 ∧ 0 = 0 ∧ (3 : Int) = 3 ∧ (True ∧ len = len) ∧ (True ∧ 1 = 1) ∧ True) ∧ True ∧ (118 = 118 ∧ 1 = 1 ∧ (True ∧ l0 = l0) ∧ True) ∧ True ∧ (100 = 100 ∧ 2 = 2 ∧ 2 * l0 ≤ 2 * l0 ∧ ∀ (i : Nat), i < 2 * l0 →
 fI g0 i = fI g0 i) ∧ True) ∧ (true = false → (2 * len = 2 * len ∧ len ≤ 1000000) ∧ False)) ∧ (∀ (_ : Nat), True → (false = true → (((0 : Int) ≤ 1 ∧ (1 : Int) < 1) ∧ True) ∧
 False) ∧ (false = false → (2 * len = 2 * len ∧ len ≤ 1000000) ∧ (2 * len = 2 * len ∧ 2 * l0 = 2 * l0 ∧ km = (0 : Int) ∧ (len ≤ 1000000 ∧ (ppBig len true = true →
 ppOk (fI g) len)) ∧ l0 ≤ 1000000 ∧ (ppBig l0 true = true → ppOk (fI g0) l0)) ∧ (True ∧ 0 = 0) ∧ True ∧ (137 = 137 ∧ 0 = 0 ∧ (True ∧ 0 = 0) ∧ (True ∧ 1 = 1) ∧ True) ∧ True ∧ (106 = 106 ∧ 1 = 1 ∧ (True ∧ 0 = 0) ∧ True) ∧ True ∧ (150 = 150 ∧ 0 = 0 ∧ true = true ∧ (ppBig len true && fGt .f64 (cwF (fI g) len len) 0) = (ppBig len true && fGt .f64 (cwF (fI g) len
 len) 0) ∧ (ppBig len true && !(dcF (fI g) len len).2) = (ppBig len true && !(dcF (fI g) len len).2) ∧ (0 : Int) = (0 :
 Int) ∧ True ∧ pick (ppBig len true) (rlo (fI g) 0 len) = pick (ppBig len true) (rlo (fI g) 0 len) ∧ pick (ppBig len true) (rlo (fI g) 1 len) = pick (ppBig len true) (rlo (fI g) 1
 len) ∧ pick (ppBig len true) (rhi (fI g) 0 len) = pick (ppBig len true) (rhi (fI g) 0 len)
∧ pick (ppBig len true) (rhi (fI g) 1 len) = pick (ppBig len true) (rhi (fI g) 1 len) ∧
(True ∧ len = len) ∧ True) ∧ True ∧ (100 = 100 ∧ 2 = 2 ∧ 2 * len ≤ 2 * len ∧ ∀ (i : Nat), i < 2 * len → fI g i = fI g i) ∧ True ∧ (150 = 150 ∧
0 = 0 ∧ true = true ∧ (ppBig l0 true && fGt .f64 (cwF (fI g0) l0 l0) 0) = (ppBig l0 true && fGt .f64 (cwF
(fI g0) l0 l0) 0) ∧ (ppBig l0 true && !(dcF (fI g0) l0 l0).2) = (ppBig l0 true && !(dcF (fI g0) l0
 l0).2) ∧ (0 : Int) = 0 ∧ True ∧ pick (ppBig l0 true) (rlo (fI g0) 0 l0) = pick (ppBig l0 true) (rlo
(fI g0) 0 l0) ∧ pick (ppBig l0 true) (rlo (fI g0) 1 l0) = pick (ppBig l0 true) (rlo
(fI g0) 1 l0) ∧ pick (ppBig l0 true) (rhi (fI g0) 0 l0) = pick (ppBig l0 true) (rhi
(fI g0) 0 l0) ∧ pick (ppBig l0 true) (rhi (fI g0) 1 l0) = pick (ppBig l0 true) (rhi
(fI g0) 1 l0) ∧ (True ∧ l0 = l0) ∧ True) ∧ True ∧ (100 = 100 ∧ 2 = 2 ∧ 2 * l0 ≤ 2 * l0 ∧ ∀ (i : Nat), i < 2 * l0 → fI g0 i = fI g0
 i) ∧ True)) ∧ True) ∧ (true = false → False)))) := by kernel_rfl
theorem shP1 : ConOk Tryz.prog 63 (conR shP1C) := by
 refine con_of_vc gSP1 Tryz.func63 rfl (by kernel_rfl) fun args => ?_
 unfold shP1C
 split
 · rename_i n len h o
   intro o0
   show RdM.All _ (match intsFrom .i64 o0.c with | some (m, g) => _ | none => _) _
   split
   · rename_i m0 g hm0
     intro o1
     show RdM.All _ (match hol1 o1.c with | some (q0, l0) => _ | none => _) _
     split
     · rename_i q0 l0 hm1
       intro o2
       show RdM.All _ (match intsFrom .i64 o2.c with | some (m, g) => _ | none => _) _
       split
       · rename_i m2 g0 hm2
         intro o3
         show RdM.All _ (match optOf o3.c with | some (km, mm) => _ | none => _) _
         split
         · rename_i km mm hm3
           intro ho
           replace ho : m0 = 2 * len ∧ m2 = 2 * l0 ∧ km = 0 ∧ (len ≤ 1000000 ∧ (ppBig len true = true → ppOk (fI g) len)) ∧ (l0 ≤ 1000000 ∧ (ppBig l0 true = true → ppOk (fI g0) l0)) := ho
           obtain ⟨hsz0, hsz2, ho⟩ := ho
           subst hsz0
           subst hsz2
           refine ⟨?_, _, _, (vc_shP1 len km mm l0 q0 g g0).mpr ?_⟩
           · refine okFlag_mk rfl ⟨?_, ⟨trivial, (contR_ints hm0).1, ⟨trivial, hol1_spec hm1 (by simp [sgSig, fsts, nth, sameN_self]), ⟨trivial, (contR_ints hm2).1, ⟨trivial, optOf_spec hm3, trivial⟩⟩⟩⟩⟩
             simp [eqvRL, eqvR, kEq_self, sgSig, fsts, nth, sameN_self]
           · obtain ⟨hk, ⟨h1, h2⟩, a0, b0⟩ := ho
             simp [hk, h1, a0]
             exact ⟨h2, b0⟩
         · trivial
       · trivial
     · trivial
   · trivial
 · trivial
noncomputable def nPo2C : List SV → RdM
 | [.slcc n len, .slcc h 2, .ptr o 0] => .read n fun o0 => (match fltsFrom .f64 o0.c with
   | some (m0, g) => .read h fun o1 => (match hol2 o1.c with
   | some (q0, l0, q1, l1) => .read q0 fun o2 => (match fltsFrom .f64 o2.c with
   | some (m2, g0) => .read q1 fun o3 => (match fltsFrom .f64 o3.c with
   | some (m3, g1) => .read o fun o4 => (match optOf o4.c with
   | some (km, mm) => .ret ⟨[.slcc 0 len, .slcc 1 2, .ptr 4 0], [(0, ⟨false, 100, .flts .f64 m0 g, 0⟩), (1, ⟨false, 118, .cells [.slcc 2 l0, .slcc 3 l1], 0⟩), (2, ⟨false, 100, .flts .f64 m2 g0, 0⟩), (3, ⟨false, 100, .flts .f64 m3 g1, 0⟩), (4, ⟨false, 148, optC km mm, 0⟩)], .ptr 5 0, [], [(5, ⟨true, 137, .cells [.ifc 157 (.ptr 7 0), .slcc 6 2], 0⟩), (6, ⟨true, 106, .cells [.ifc 157 (.ptr 9 0), .ifc 157 (.ptr 11 0)], 1⟩), (7, ⟨true, 150, .cells (rectS len true g 8 0), 0⟩), (8, ⟨true, 100, .flts .f64 (2 * len) g, 2⟩), (9, ⟨true, 150, .cells (rectS l0 true g0 10 0), 0⟩), (10, ⟨true, 100, .flts .f64 (2 * l0) g0, 2⟩), (11, ⟨true, 150, .cells (rectS l1 true g1 12 0), 0⟩), (12, ⟨true, 100, .flts .f64 (2 * l1) g1, 2⟩)], some (m0 = 2 * len ∧ m2 = 2 * l0 ∧ m3 = 2 * l1 ∧ km = 0 ∧ (len ≤ 1000000 ∧ (ppBig len true = true → ppOk g len)) ∧ (l0 ≤ 1000000 ∧ (ppBig l0 true = true → ppOk g0 l0)) ∧ (l1 ≤ 1000000 ∧ (ppBig l1 true = true → ppOk g1 l1)))⟩
   | none => .fail)
   | none => .fail)
   | none => .fail)
   | none => .fail)
   | none => .fail)
 | _ => .fail
theorem vc_nPo2 (len : Nat) (km mm : Int) (l0 l1 : Nat) (_ _ : Nm)  (g : Nat → Nat) (g0 : Nat → Nat) (g1 : Nat → Nat) : runA GNP 5 [(6, .unr [⟨Nat, fun _ => ⟨44, [(1, .slcc 1 2), (2, .ptr 4 0), (7, .ptr 5 0), (26, .int .i64 2), (27, .int .i64 0)], [(1, ⟨false, 118, .cells [.slcc 2 l0, .slcc 3 l1], 0⟩), (2, ⟨false, 100, .flts .f64 (2 * l0) g0, 0⟩), (3, ⟨false, 100, .flts .f64 (2 * l1) g1, 0⟩), (4, ⟨false, 148, optC km mm, 0⟩), (5, ⟨true, 137, .cells [.ifc 157 (.ptr 7 0), .slcc 6 2], 0⟩), (6, ⟨true, 106, .cells [.nili, .nili], 1⟩), (7, ⟨true, 150, .cells (rectS len true g 8 0), 0⟩), (8, ⟨true, 100, .flts .f64 (2 * len) g, 2⟩)], 9⟩, fun _ => True, fun _ => 0⟩, ⟨Nat, fun _ => ⟨44, [(1, .slcc 1 2), (2, .ptr 4 0), (7, .ptr 5 0), (26, .int .i64 2), (27, .int .i64 1)], [(1, ⟨false, 118, .cells [.slcc 2 l0, .slcc 3 l1], 0⟩), (2, ⟨false, 100, .flts .f64 (2 * l0) g0, 0⟩), (3, ⟨false, 100, .flts .f64 (2 * l1) g1, 0⟩), (4, ⟨false, 148, optC km mm, 0⟩), (5, ⟨true, 137, .cells [.ifc 157 (.ptr 7 0), .slcc 6 2], 0⟩), (6, ⟨true, 106, .cells [.ifc 157 (.ptr 9 0), .nili], 1⟩), (7, ⟨true, 150, .cells (rectS len true g 8 0), 0⟩), (8, ⟨true, 100, .flts .f64 (2 * len) g, 2⟩), (9, ⟨true, 150, .cells (rectS l0 true g0 10 0), 0⟩), (10, ⟨true, 100, .flts .f64 (2 * l0) g0, 2⟩)], 11⟩, fun _ => True, fun _ => 0⟩, ⟨Nat, fun _ => ⟨44, [(1, .slcc 1 2), (2, .ptr 4 0), (7, .ptr 5 0), (26, .int .i64 2), (27, .int .i64 2)], [(1, ⟨false, 118, .cells [.slcc 2 l0, .slcc 3 l1], 0⟩), (2, ⟨false, 100, .flts .f64 (2 * l0) g0, 0⟩), (3, ⟨false, 100, .flts .f64 (2 * l1) g1, 0⟩), (4, ⟨false, 148, optC km mm, 0⟩), (5, ⟨true, 137, .cells [.ifc 157 (.ptr 7 0), .slcc 6 2], 0⟩), (6, ⟨true, 106, .cells [.ifc 157 (.ptr 9 0), .ifc 157 (.ptr 11 0)], 1⟩), (7, ⟨true, 150, .cells (rectS len true g 8 0), 0⟩), (8, ⟨true, 100, .flts .f64 (2 * len) g, 2⟩), (9, ⟨true, 150, .cells (rectS l0 true g0 10 0), 0⟩), (10, ⟨true, 100, .flts .f64 (2 * l0) g0, 2⟩), (11, ⟨true, 150, .cells (rectS l1 true g1 12 0), 0⟩), (12, ⟨true, 100, .flts .f64 (2 * l1) g1, 2⟩)], 13⟩, fun _ => True, fun _ => 0⟩])] [] (codeOf Tryz.f91) (init Tryz.f91.ntmps [.slcc 0 len, .slcc 1 2, .ptr 4 0] [(0, ⟨false, 100, .flts .f64 (2 * len) g, 0⟩), (1, ⟨false, 118, .cells [.slcc 2 l0, .slcc 3 l1], 0⟩), (2, ⟨false, 100, .flts .f64 (2 * l0) g0, 0⟩), (3, ⟨false, 100, .flts .f64 (2 * l1) g1, 0⟩), (4, ⟨false, 148, optC km mm, 0⟩)] 5) (endK GNP.E.T Tryz.f91.results.toList fun S v => postP 5 ⟨[.slcc 0 len, .slcc 1 2, .ptr 4 0], [(0, ⟨false, 100, .flts .f64 (2 * len) g, 0⟩), (1, ⟨false, 118, .cells [.slcc 2 l0, .slcc 3 l1], 0⟩), (2, ⟨false, 100, .flts .f64 (2 * l0) g0, 0⟩), (3, ⟨false, 100, .flts .f64 (2 * l1) g1, 0⟩), (4, ⟨false, 148, optC km mm, 0⟩)], .ptr 5 0, [], [(5, ⟨true, 137, .cells [.ifc 157 (.ptr 7 0), .slcc 6 2], 0⟩), (6, ⟨true, 106, .cells [.ifc 157 (.ptr 9 0), .ifc 157 (.ptr 11 0)], 1⟩), (7, ⟨true, 150, .cells (rectS len true g 8 0), 0⟩), (8, ⟨true, 100, .flts .f64 (2 * len) g, 2⟩), (9, ⟨true, 150, .cells (rectS l0 true g0 10 0), 0⟩), (10, ⟨true, 100, .flts .f64 (2 * l0) g0, 2⟩), (11, ⟨true, 150, .cells (rectS l1 true g1 12 0), 0⟩), (12, ⟨true, 100, .flts .f64 (2 * l1) g1, 2⟩)], some (2 * len = 2 * len ∧ 2 * l0 = 2 * l0 ∧ 2 * l1 = 2 * l1 ∧ km = 0 ∧ (len ≤ 1000000 ∧ (ppBig len true = true → ppOk g len)) ∧ (l0 ≤ 1000000 ∧ (ppBig l0 true = true → ppOk g0 l0)) ∧ (l1 ≤ 1000000 ∧ (ppBig l1 true = true → ppOk g1 l1)))⟩ S v) = (
(2 * len = 2 * len ∧ km = (0 : Int) ∧ len ≤ 1000000 ∧ (ppBig len true = true → ppOk g len)) ∧ (true = true → ((2 : Int) = 2 ∧ (0 : Int) ≤ 2 ∧ (2 : Int) ≤ (9223372036854775807
: Int) ∧ (32 : Int) ≤ 140737488355328) ∧ (∃ (_ : Nat), True ∧ ((True ∧ 2 = 2) ∧ (True ∧ 0 = 0) ∧ (True ∧ 0 = 0) ∧ (2 : Int) = 2 ∧ (0 : Int) = 0 ∧ True) ∧ True ∧ ((True ∧ l0 = l0)
∧ (True ∧ l1 = l1) ∧ True) ∧ True ∧ (2 * l0 ≤ 2 * l0 ∧ ∀ (i : Nat), i < 2 * l0 → g0 i = g0 i) ∧ True ∧ (2 * l1 ≤ 2 * l1 ∧ ∀ (i : Nat), i < 2 * l1 → g1 i = g1 i) ∧ True ∧ (km = km ∧ mm = mm ∧ True) ∧
 True ∧ (137 = 137 ∧ 0 = 0 ∧ (True ∧ 0 = 0) ∧ (True ∧ 2 = 2) ∧ True) ∧ True ∧ (106 = 106 ∧ 1 = 1 ∧ True ∧ True ∧ True) ∧ True ∧ (150 = 150
∧ 0 = 0 ∧ true = true ∧ (ppBig len true && fGt .f64 (cwF g len len) 0) = (ppBig len true && fGt .f64 (cwF g len len) 0) ∧
(ppBig len true && !(dcF g len len).2) = (ppBig len true && !(dcF g len len).2) ∧ (0 : Int) = 0 ∧ True ∧ pick (ppBig len
 true) (rlo g 0 len) = pick (ppBig len true) (rlo g 0 len) ∧ pick (ppBig len true) (rlo g 1 len) =
 pick (ppBig len true) (rlo g 1 len) ∧ pick (ppBig len true) (rhi g 0 len) = pick (ppBig
 len true) (rhi g 0 len) ∧ pick (ppBig len true) (rhi g 1 len) = pick (ppBig len true) (rhi g 1 len)
∧ (True ∧ len = len) ∧ True) ∧ True ∧ (100 = 100 ∧ 2 = 2 ∧ 2 * len ≤ 2 * len ∧ ∀ (i : Nat), i < 2 * len → g i = g i) ∧ True) ∧ (∀ (_ : Nat), True → (true = true → (((0 : Int) ≤ 0 ∧ (0 :
 Int) < (2 : Int)) ∧ True) ∧ (2 * l0 = 2 * l0 ∧ km = (0 : Int) ∧ l0 ≤ 1000000 ∧ (ppBig l0 true = true → ppOk g0 l0)) ∧ (((0 : Int) ≤ 0 ∧ (0 : Int) < 2) ∧ True) ∧ true = true ∧
∃ (_ : Nat), True ∧ ((True ∧ 2 = 2) ∧ (True ∧ 0 = 0) ∧ (True ∧ 0 = 0) ∧ (2 : Int) = 2 ∧ (1 : Int) = 1 ∧ True) ∧ True ∧ ((True ∧ l0 = l0) ∧ (True ∧ l1 = l1) ∧ True) ∧ True ∧ (2 *
 l0 ≤ 2 * l0 ∧ ∀ (i : Nat), i < 2 * l0 → g0 i = g0 i) ∧ True ∧ (2 * l1 ≤ 2 * l1 ∧ ∀ (i : Nat), i < 2 * l1 → g1 i = g1 i) ∧ True ∧ (km = km ∧ mm = mm ∧ True) ∧ True ∧ (137 = 137 ∧ 0 = 0 ∧ (True ∧ 0 = 0) ∧ (True ∧ 2 = 2) ∧ True) ∧ True ∧ (106 = 106 ∧ 1 = 1 ∧ (True ∧ 0 = 0) ∧ True ∧ True) ∧ True ∧ (150 = 150 ∧ 0 = 0 ∧
 true = true ∧ (ppBig len true && fGt .f64 (cwF g len len) 0) = (ppBig len true && fGt .f64 (cwF g len len) 0) ∧ (ppBig len true &&
!(dcF g len len).2) = (ppBig len true && !(dcF g len len).2) ∧ (0 : Int) = 0 ∧ True ∧ pick (ppBig len true) (rlo g 0 len) = pick (ppBig len true) (rlo g 0 len) ∧ pick (ppBig len true) (rlo g 1 len) = pick
(ppBig len true) (rlo g 1 len) ∧ pick (ppBig len true) (rhi g 0 len) = pick (ppBig len true)
(rhi g 0 len) ∧ pick (ppBig len true) (rhi g 1 len) = pick (ppBig len true) (rhi g 1 len) ∧ (True ∧
 len = len) ∧ True) ∧ True ∧ (100 = 100 ∧ 2 = 2 ∧ 2 * len ≤ 2 * len ∧ ∀ (i : Nat), i < 2 * len → g i = g i) ∧ True ∧ (150 = 150 ∧ 0 = 0 ∧ true = true ∧
(ppBig l0 true && fGt .f64 (cwF g0 l0 l0) 0) = (ppBig l0 true && fGt .f64 (cwF g0 l0 l0) 0) ∧ (ppBig l0 true && !Prod.snd
(dcF g0 l0 l0)) = (ppBig l0 true && !(dcF g0 l0 l0).2) ∧ (0 : Int) = 0 ∧ True ∧ pick (ppBig l0 true) (rlo g0 0 l0) =
 pick (ppBig l0 true) (rlo g0 0 l0) ∧ pick (ppBig l0 true) (rlo g0 1 l0) = pick (ppBig l0
 true) (rlo g0 1 l0) ∧ pick (ppBig l0 true) (rhi g0 0 l0) = pick (ppBig l0 true) (rhi g0 0 l0) ∧
 pick (ppBig l0 true) (rhi g0 1 l0) = pick (ppBig l0 true) (rhi g0 1 l0) ∧ (True ∧ l0 = l0) ∧ True) ∧ True ∧ (100 =
100 ∧ 2 = 2 ∧ 2 * l0 ≤ 2 * l0 ∧ ∀ (i : Nat), i < 2 * l0 → g0 i = g0 i) ∧ True) ∧ (true = false → (True ∧ 0 = 0) ∧ True ∧ (137 = 137 ∧ 0 = 0 ∧ (True ∧ 0 = 0) ∧ (True ∧ 2 = 2) ∧ True) ∧ True ∧ (106 = 106 ∧ 1 = 1 ∧ False ∧ False ∧ True) ∧ True ∧ (150 = 150 ∧ 0 = 0 ∧ true = true ∧ (ppBig len
 true && fGt .f64 (cwF g len len) 0) = (ppBig len true && fGt .f64 (cwF g len len) 0) ∧ (ppBig len true && !(dcF g len len).2)
= (ppBig len true && !(dcF g len len).2) ∧ (0 : Int) = 0 ∧ True ∧ pick (ppBig len true) (rlo g 0 len) = pick
(ppBig len true) (rlo g 0 len) ∧ pick (ppBig len true) (rlo g 1 len) = pick (ppBig len true)
(rlo g 1 len) ∧ pick (ppBig len true) (rhi g 0 len) = pick (ppBig len true) (rhi g 0 len) ∧
 pick (ppBig len true) (rhi g 1 len) = pick (ppBig len true) (rhi g 1 len) ∧ (True ∧ len = len) ∧ True) ∧ True ∧ (100 =
100 ∧ 2 = 2 ∧ 2 * len ≤ 2 * len ∧ ∀ (i : Nat), i < 2 * len → g i = g i) ∧ True ∧ List.length (rectS l0 true g0 10 (0 : Int)) = 0 ∧ True ∧ 2 * l0 = 0 ∧
 True ∧ List.length (rectS l1 true g1 12 (0 : Int)) = 0 ∧ True ∧ 2 * l1 = 0 ∧ True)) ∧ (∀ (_ : Nat), True → (true = true → (((0 : Int) ≤ 1 ∧ (1 : Int) < 2) ∧ True) ∧ (2 * l1 =
2 * l1 ∧ km = (0 : Int) ∧ l1 ≤ 1000000 ∧ (ppBig l1 true = true → ppOk g1 l1)) ∧ (((0 : Int) ≤ 1 ∧ (1 : Int) < 2) ∧ True) ∧ true = true ∧ ∃ (_ : Nat), True ∧ ((True ∧ 2 = 2) ∧ (True ∧ 0 = 0) ∧ (True ∧ 0 = 0) ∧ (2 : Int) = 2 ∧ (2 : Int) = 2 ∧ True) ∧ True ∧ ((True ∧ l0 = l0) ∧ (True ∧ l1 = l1) ∧ True) ∧ True ∧ (2 * l0 ≤ 2 * l0 ∧ ∀ (i : Nat), i < 2 * l0 → g0 i = g0 i) ∧ True ∧ (2 * l1 ≤ 2 * l1 ∧ ∀ (i : Nat), i < 2 * l1 → g1 i = g1 i) ∧ True ∧ (km = km ∧ mm = mm ∧ True) ∧ True ∧ (137 = 137 ∧ 0 = 0 ∧ (True ∧ 0 = 0) ∧
(True ∧ 2 = 2) ∧ True) ∧ True ∧ (106 = 106 ∧ 1 = 1 ∧ (True ∧ 0 = 0) ∧ (True ∧ 0 = 0) ∧ True) ∧ True ∧ (150 = 150 ∧ 0 = 0 ∧ true = true ∧
(ppBig len true && fGt .f64 (cwF g len len) 0) = (ppBig len true && fGt .f64 (cwF g len len) 0) ∧ (ppBig len true && !Prod.snd
(dcF g len len)) = (ppBig len true && !(dcF g len len).2) ∧ (0 : Int) = 0 ∧ True ∧ pick (ppBig len true) (rlo g 0 len)
= pick (ppBig len true) (rlo g 0 len) ∧ pick (ppBig len true) (rlo g 1 len) = pick (ppBig
 len true) (rlo g 1 len) ∧ pick (ppBig len true) (rhi g 0 len) = pick (ppBig len true) (rhi g 0 len)
∧ pick (ppBig len true) (rhi g 1 len) = pick (ppBig len true) (rhi g 1 len) ∧ (True ∧ len = len) ∧ True) ∧ True ∧ (100
= 100 ∧ 2 = 2 ∧ 2 * len ≤ 2 * len ∧ ∀ (i : Nat), i < 2 * len → g i = g i) ∧ True ∧ (150 = 150 ∧ 0 = 0 ∧ true = true ∧ (ppBig l0 true && fGt .f64
(cwF g0 l0 l0) 0) = (ppBig l0 true && fGt .f64 (cwF g0 l0 l0) 0) ∧ (ppBig l0 true && !(dcF g0 l0 l0).2) = (ppBig
 l0 true && !(dcF g0 l0 l0).2) ∧ (0 : Int) = 0 ∧ True ∧ pick (ppBig l0 true) (rlo g0 0 l0) = pick (ppBig l0 true)
(rlo g0 0 l0) ∧ pick (ppBig l0 true) (rlo g0 1 l0) = pick (ppBig l0 true) (rlo g0 1 l0) ∧
 pick (ppBig l0 true) (rhi g0 0 l0) = pick (ppBig l0 true) (rhi g0 0 l0) ∧ pick (ppBig l0
 true) (rhi g0 1 l0) = pick (ppBig l0 true) (rhi g0 1 l0) ∧ (True ∧ l0 = l0) ∧ True) ∧ True ∧ (100 = 100 ∧ 2 = 2 ∧ 2 * l0 ≤
2 * l0 ∧ ∀ (i : Nat), i < 2 * l0 → g0 i = g0 i) ∧ True ∧ (150 = 150 ∧ 0 = 0 ∧ true = true ∧ (ppBig l1 true && fGt .f64 (cwF g1 l1 l1) 0) =
(ppBig l1 true && fGt .f64 (cwF g1 l1 l1) 0) ∧ (ppBig l1 true && !(dcF g1 l1 l1).2) = (ppBig l1 true && !(dcF g1
 l1 l1).2) ∧ (0 : Int) = 0 ∧ True ∧ pick (ppBig l1 true) (rlo g1 0 l1) = pick (ppBig l1 true) (rlo g1 0 l1) ∧
 pick (ppBig l1 true) (rlo g1 1 l1) = pick (ppBig l1 true) (rlo g1 1 l1) ∧ pick (ppBig l1
 true) (rhi g1 0 l1) = pick (ppBig l1 true) (rhi g1 0 l1) ∧ pick (ppBig l1 true) (rhi g1 1 l1) =
 pick (ppBig l1 true) (rhi g1 1 l1) ∧ (True ∧ l1 = l1) ∧ True) ∧ True ∧ (100 = 100 ∧ 2 = 2 ∧ 2 * l1 ≤ 2 * l1 ∧ ∀ (i : Nat), i < 2 *
 l1 → g1 i = g1 i) ∧ True) ∧ (true = false → (True ∧ 0 = 0) ∧ True ∧ (137 = 137 ∧ 0 = 0 ∧ (True ∧ 0 = 0) ∧ (True ∧ 2 = 2) ∧ True) ∧ True ∧ (106 = 106 ∧ 1 = 1 ∧ (True ∧ 0 = 0) ∧ False ∧ True) ∧ True ∧ (150 = 150 ∧ 0 = 0 ∧ true = true ∧ (ppBig len true && fGt .f64 (cwF g len len) 0) =
(ppBig len true && fGt .f64 (cwF g len len) 0) ∧ (ppBig len true && !(dcF g len len).2) = (ppBig len true && !Prod.snd
(dcF g len len)) ∧ (0 : Int) = 0 ∧ True ∧ pick (ppBig len true) (rlo g 0 len) = pick (ppBig len true) (rlo g
0 len) ∧ pick (ppBig len true) (rlo g 1 len) = pick (ppBig len true) (rlo g 1 len) ∧ pick
(ppBig len true) (rhi g 0 len) = pick (ppBig len true) (rhi g 0 len) ∧ pick (ppBig len true)
(rhi g 1 len) = pick (ppBig len true) (rhi g 1 len) ∧ (True ∧ len = len) ∧ True) ∧ True ∧ (100 = 100 ∧ 2 = 2 ∧ 2 * len ≤
2 * len ∧ ∀ (i : Nat), i < 2 * len → g i = g i) ∧ True ∧ (150 = 150 ∧ 0 = 0 ∧ true = true ∧ (ppBig l0 true && fGt .f64 (cwF g0 l0 l0) 0) =
(ppBig l0 true && fGt .f64 (cwF g0 l0 l0) 0) ∧ (ppBig l0 true && !(dcF g0 l0 l0).2) = (ppBig l0 true && !(dcF g0
 l0 l0).2) ∧ (0 : Int) = 0 ∧ True ∧ pick (ppBig l0 true) (rlo g0 0 l0) = pick (ppBig l0 true) (rlo g0 0 l0) ∧
 pick (ppBig l0 true) (rlo g0 1 l0) = pick (ppBig l0 true) (rlo g0 1 l0) ∧ pick (ppBig l0
 true) (rhi g0 0 l0) = pick (ppBig l0 true) (rhi g0 0 l0) ∧ pick (ppBig l0 true) (rhi g0 1 l0) =
 pick (ppBig l0 true) (rhi g0 1 l0) ∧ (True ∧ l0 = l0) ∧ True) ∧ True ∧ (100 = 100 ∧ 2 = 2 ∧ 2 * l0 ≤ 2 * l0 ∧ ∀ (i : Nat), i < 2 *
 l0 → g0 i = g0 i) ∧ True ∧ List.length (rectS l1 true g1 12 (0 : Int)) = 0 ∧ True ∧ 2 * l1 = 0 ∧ True)) ∧ (∀ (_ : Nat), True → (false = true → False) ∧ (false = false → (True ∧ 0 = 0)
∧ True ∧ (137 = 137 ∧ 0 = 0 ∧ (True ∧ 0 = 0) ∧ (True ∧ 2 = 2) ∧ True) ∧ True ∧ (106 = 106 ∧ 1 = 1 ∧ (True ∧ 0 = 0) ∧ (True ∧ 0 =
0) ∧ True) ∧ True ∧ (150 = 150 ∧ 0 = 0 ∧ true = true ∧ (ppBig len true && fGt .f64 (cwF g len len) 0) = (ppBig len true && fGt .f64
(cwF g len len) 0) ∧ (ppBig len true && !(dcF g len len).2) = (ppBig len true && !(dcF g len len).2) ∧ (0 : Int) = 0 ∧ True ∧
 pick (ppBig len true) (rlo g 0 len) = pick (ppBig len true) (rlo g 0 len) ∧ pick (ppBig
 len true) (rlo g 1 len) = pick (ppBig len true) (rlo g 1 len) ∧ pick (ppBig len true) (rhi g 0 len)
= pick (ppBig len true) (rhi g 0 len) ∧ pick (ppBig len true) (rhi g 1 len) = pick (ppBig
 len true) (rhi g 1 len) ∧ (True ∧ len = len) ∧ True) ∧ True ∧ (100 = 100 ∧ 2 = 2 ∧ 2 * len ≤ 2 * len ∧ ∀ (i : Nat), i < 2 * len → g i = g i) ∧ True ∧ (150 =
150 ∧ 0 = 0 ∧ true = true ∧ (ppBig l0 true && fGt .f64 (cwF g0 l0 l0) 0) = (ppBig l0 true && fGt .f64 (cwF g0 l0 l0) 0) ∧
(ppBig l0 true && !(dcF g0 l0 l0).2) = (ppBig l0 true && !(dcF g0 l0 l0).2) ∧ (0 : Int) = 0 ∧ True ∧ pick (ppBig l0
 true) (rlo g0 0 l0) = pick (ppBig l0 true) (rlo g0 0 l0) ∧ pick (ppBig l0 true) (rlo g0 1 l0) =
 pick (ppBig l0 true) (rlo g0 1 l0) ∧ pick (ppBig l0 true) (rhi g0 0 l0) = pick (ppBig l0
 true) (rhi g0 0 l0) ∧ pick (ppBig l0 true) (rhi g0 1 l0) = pick (ppBig l0 true) (rhi g0 1 l0) ∧
(True ∧ l0 = l0) ∧ True) ∧ True ∧ (100 = 100 ∧ 2 = 2 ∧ 2 * l0 ≤ 2 * l0 ∧ ∀ (i : Nat), i < 2 * l0 → g0 i = g0 i) ∧ True ∧ (150 = 150 ∧ 0 = 0 ∧ true = true ∧
(ppBig l1 true && fGt .f64 (cwF g1 l1 l1) 0) = (ppBig l1 true && fGt .f64 (cwF g1 l1 l1) 0) ∧ (ppBig l1 true && !Prod.snd
(dcF g1 l1 l1)) = (ppBig l1 true && !(dcF g1 l1 l1).2) ∧ (0 : Int) = 0 ∧ True ∧ pick (ppBig l1 true) (rlo g1 0 l1) =
 pick (ppBig l1 true) (rlo g1 0 l1) ∧ pick (ppBig l1 true) (rlo g1 1 l1) = pick (ppBig l1
 true) (rlo g1 1 l1) ∧ pick (ppBig l1 true) (rhi g1 0 l1) = pick (ppBig l1 true) (rhi g1 0 l1) ∧
 pick (ppBig l1 true) (rhi g1 1 l1) = pick (ppBig l1 true) (rhi g1 1 l1) ∧ (True ∧ l1 = l1) ∧ True) ∧ True ∧ (100 =
100 ∧ 2 = 2 ∧ 2 * l1 ≤ 2 * l1 ∧ ∀ (i : Nat), i < 2 * l1 → g1 i = g1 i) ∧ True)) ∧ True) ∧ (true = false → (True ∧ 0 = 0) ∧ True ∧ (137 = 137 ∧ 0 = 0 ∧
(True ∧ 0 = 0) ∧ 2 = 0 ∧ True) ∧ True ∧ 2 = 0 ∧ True ∧ (150 = 150 ∧ 0 = 0 ∧ true = true ∧ (ppBig len true && fGt .f64 (cwF g len
 len) 0) = (ppBig len true && fGt .f64 (cwF g len len) 0) ∧ (ppBig len true && !(dcF g len len).2) = (ppBig len true && !Prod.snd
(dcF g len len)) ∧ (0 : Int) = 0 ∧ True ∧ pick (ppBig len true) (rlo g 0 len) = pick (ppBig len true) (rlo g
0 len) ∧ pick (ppBig len true) (rlo g 1 len) = pick (ppBig len true) (rlo g 1 len) ∧ pick
(ppBig len true) (rhi g 0 len) = pick (ppBig len true) (rhi g 0 len) ∧ pick (ppBig len true)
(rhi g 1 len) = pick (ppBig len true) (rhi g 1 len) ∧ (True ∧ len = len) ∧ True) ∧ True ∧ (100 = 100 ∧ 2 = 2 ∧ 2 * len ≤
2 * len ∧ ∀ (i : Nat), i < 2 * len → g i = g i) ∧ True ∧ List.length (rectS l0 true g0 10 (0 : Int)) = 0 ∧ True ∧ 2 * l0 = 0 ∧ True ∧ List.length (rectS l1 true g1
12 (0 : Int)) = 0 ∧ True ∧ 2 * l1 = 0 ∧ True)) := by kernel_rfl
theorem nPo2 : ConOk Tryz.prog 91 (conR nPo2C) := by
 refine con_of_vc gNP Tryz.func91 rfl (by kernel_rfl) fun args => ?_
 unfold nPo2C
 split
 · rename_i n len h o
   intro o0
   show RdM.All _ (match fltsFrom .f64 o0.c with | some (m, g) => _ | none => _) _
   split
   · rename_i m0 g hm0
     intro o1
     show RdM.All _ (match hol2 o1.c with | some (q0, l0, q1, l1) => _ | none => _) _
     split
     · rename_i q0 l0 q1 l1 hm1
       intro o2
       show RdM.All _ (match fltsFrom .f64 o2.c with | some (m, g) => _ | none => _) _
       split
       · rename_i m2 g0 hm2
         intro o3
         show RdM.All _ (match fltsFrom .f64 o3.c with | some (m, g) => _ | none => _) _
         split
         · rename_i m3 g1 hm3
           intro o4
           show RdM.All _ (match optOf o4.c with | some (km, mm) => _ | none => _) _
           split
           · rename_i km mm hm4
             intro ho
             replace ho : m0 = 2 * len ∧ m2 = 2 * l0 ∧ m3 = 2 * l1 ∧ km = 0 ∧ (len ≤ 1000000 ∧ (ppBig len true = true → ppOk g len)) ∧ (l0 ≤ 1000000 ∧ (ppBig l0 true = true → ppOk g0 l0)) ∧ (l1 ≤ 1000000 ∧ (ppBig l1 true = true → ppOk g1 l1)) := ho
             obtain ⟨hsz0, hsz2, hsz3, ho⟩ := ho
             subst hsz0
             subst hsz2
             subst hsz3
             refine ⟨?_, _, _, (vc_nPo2 len km mm l0 l1 q0 q1 g g0 g1).mpr ?_⟩
             · refine okFlag_mk rfl ⟨?_, ⟨trivial, (contR_flts hm0).1, ⟨trivial, hol2_spec hm1 (by simp [sgSig, fsts, nth, sameN_self]) (by simp [sgSig, fsts, nth, sameN_self]), ⟨trivial, (contR_flts hm2).1, ⟨trivial, (contR_flts hm3).1, ⟨trivial, optOf_spec hm4, trivial⟩⟩⟩⟩⟩⟩
               simp [eqvRL, eqvR, sgSig, fsts, nth, sameN_self]
             · obtain ⟨hk, ⟨h1, h2⟩, ⟨a0, b0⟩, a1, b1⟩ := ho
               simp [hk, h1, a0, a1]
               exact ⟨h2, b0, b1⟩
           · trivial
         · trivial
       · trivial
     · trivial
   · trivial
 · trivial
noncomputable def GSP2 : Ctx := ⟨⟨tys, []⟩, [(74, conR ptsC), (91, conR nPo2C)]⟩
theorem gSP2 : CtxOk Tryz.prog GSP2 := ⟨⟨tysOk, FlatsOk.nil⟩, GamOk.cons pts (GamOk.cons nPo2 GamOk.nil), by kernel_rfl⟩
noncomputable def shP2C : List SV → RdM
 | [.agg [.int .i64 3, .slcc n len, .slcc h 2], .ptr o 0] => .read n fun o0 => (match intsFrom .i64 o0.c with
   | some (m0, g) => .read h fun o1 => (match hol2 o1.c with
   | some (q0, l0, q1, l1) => .read q0 fun o2 => (match intsFrom .i64 o2.c with
   | some (m2, g0) => .read q1 fun o3 => (match intsFrom .i64 o3.c with
   | some (m3, g1) => .read o fun o4 => (match optOf o4.c with
   | some (km, mm) => .ret ⟨[.agg [.int .i64 3, .slcc 0 len, .slcc 1 2], .ptr 4 0], [(0, ⟨false, 23, .ints .i64 m0 g, 0⟩), (1, ⟨false, 25, .cells [.slcc 2 l0, .slcc 3 l1], 0⟩), (2, ⟨false, 23, .ints .i64 m2 g0, 0⟩), (3, ⟨false, 23, .ints .i64 m3 g1, 0⟩), (4, ⟨false, 148, optC km mm, 0⟩)], .ifc 121 (.ptr 5 0), [], [(5, ⟨true, 137, .cells [.ifc 157 (.ptr 7 0), .slcc 6 2], 0⟩), (6, ⟨true, 106, .cells [.ifc 157 (.ptr 9 0), .ifc 157 (.ptr 11 0)], 1⟩), (7, ⟨true, 150, .cells (rectS len true (fI g) 8 0), 0⟩), (8, ⟨true, 100, .flts .f64 (2 * len) (fI g), 2⟩), (9, ⟨true, 150, .cells (rectS l0 true (fI g0) 10 0), 0⟩), (10, ⟨true, 100, .flts .f64 (2 * l0) (fI g0), 2⟩), (11, ⟨true, 150, .cells (rectS l1 true (fI g1) 12 0), 0⟩), (12, ⟨true, 100, .flts .f64 (2 * l1) (fI g1), 2⟩)], some (m0 = 2 * len ∧ m2 = 2 * l0 ∧ m3 = 2 * l1 ∧ km = 0 ∧ (len ≤ 1000000 ∧ (ppBig len true = true → ppOk (fI g) len)) ∧ (l0 ≤ 1000000 ∧ (ppBig l0 true = true → ppOk (fI g0) l0)) ∧ (l1 ≤ 1000000 ∧ (ppBig l1 true = true → ppOk (fI g1) l1)))⟩
   | none => .fail)
   | none => .fail)
   | none => .fail)
   | none => .fail)
   | none => .fail)
 | _ => .fail
theorem vc_shP2 (len : Nat) (km mm : Int) (l0 l1 : Nat) (_ _ : Nm)  (g : Nat → Int) (g0 : Nat → Int) (g1 : Nat → Int) : runA GSP2 5 [(9, .unr [⟨Nat, fun _ => ⟨53, [(1, .ptr 4 0), (2, .ptr 5 0), (5, .nils), (30, .slcc 1 2), (31, .int .i64 2), (32, .int .i64 0)], [(0, ⟨false, 23, .ints .i64 (2 * len) g, 0⟩), (1, ⟨false, 25, .cells [.slcc 2 l0, .slcc 3 l1], 0⟩), (2, ⟨false, 23, .ints .i64 (2 * l0) g0, 0⟩), (3, ⟨false, 23, .ints .i64 (2 * l1) g1, 0⟩), (4, ⟨false, 148, optC km mm, 0⟩), (5, ⟨true, 39, .cells [.int .i64 3, .slcc 0 len, .slcc 1 2], 0⟩)], 6⟩, fun _ => True, fun _ => 0⟩, ⟨Nat, fun _ => ⟨53, [(1, .ptr 4 0), (2, .ptr 5 0), (5, .slcc 6 1), (30, .slcc 1 2), (31, .int .i64 2), (32, .int .i64 1)], [(0, ⟨false, 23, .ints .i64 (2 * len) g, 0⟩), (1, ⟨false, 25, .cells [.slcc 2 l0, .slcc 3 l1], 0⟩), (2, ⟨false, 23, .ints .i64 (2 * l0) g0, 0⟩), (3, ⟨false, 23, .ints .i64 (2 * l1) g1, 0⟩), (4, ⟨false, 148, optC km mm, 0⟩), (5, ⟨true, 39, .cells [.int .i64 3, .slcc 0 len, .slcc 1 2], 0⟩), (6, ⟨true, 118, .cells [.slcc 7 l0], 1⟩), (7, ⟨true, 100, .flts .f64 (2 * l0) (fI g0), 2⟩)], 8⟩, fun _ => True, fun _ => 0⟩, ⟨Nat, fun _ => ⟨53, [(1, .ptr 4 0), (2, .ptr 5 0), (5, .slcc 6 2), (30, .slcc 1 2), (31, .int .i64 2), (32, .int .i64 2)], [(0, ⟨false, 23, .ints .i64 (2 * len) g, 0⟩), (1, ⟨false, 25, .cells [.slcc 2 l0, .slcc 3 l1], 0⟩), (2, ⟨false, 23, .ints .i64 (2 * l0) g0, 0⟩), (3, ⟨false, 23, .ints .i64 (2 * l1) g1, 0⟩), (4, ⟨false, 148, optC km mm, 0⟩), (5, ⟨true, 39, .cells [.int .i64 3, .slcc 0 len, .slcc 1 2], 0⟩), (6, ⟨true, 118, .cells [.slcc 7 l0, .slcc 8 l1], 1⟩), (7, ⟨true, 100, .flts .f64 (2 * l0) (fI g0), 2⟩), (8, ⟨true, 100, .flts .f64 (2 * l1) (fI g1), 2⟩)], 9⟩, fun _ => True, fun _ => 0⟩])] [] (codeOf Tryz.f63) (init Tryz.f63.ntmps [.agg [.int .i64 3, .slcc 0 len, .slcc 1 2], .ptr 4 0] [(0, ⟨false, 23, .ints .i64 (2 * len) g, 0⟩), (1, ⟨false, 25, .cells [.slcc 2 l0, .slcc 3 l1], 0⟩), (2, ⟨false, 23, .ints .i64 (2 * l0) g0, 0⟩), (3, ⟨false, 23, .ints .i64 (2 * l1) g1, 0⟩), (4, ⟨false, 148, optC km mm, 0⟩)] 5) (endK GSP2.E.T Tryz.f63.results.toList fun S v => postP 5 ⟨[.agg [.int .i64 3, .slcc 0 len, .slcc 1 2], .ptr 4 0], [(0, ⟨false, 23, .ints .i64 (2 * len) g, 0⟩), (1, ⟨false, 25, .cells [.slcc 2 l0, .slcc 3 l1], 0⟩), (2, ⟨false, 23, .ints .i64 (2 * l0) g0, 0⟩), (3, ⟨false, 23, .ints .i64 (2 * l1) g1, 0⟩), (4, ⟨false, 148, optC km mm, 0⟩)], .ifc 121 (.ptr 5 0), [], [(5, ⟨true, 137, .cells [.ifc 157 (.ptr 7 0), .slcc 6 2], 0⟩), (6, ⟨true, 106, .cells [.ifc 157 (.ptr 9 0), .ifc 157 (.ptr 11 0)], 1⟩), (7, ⟨true, 150, .cells (rectS len true (fI g) 8 0), 0⟩), (8, ⟨true, 100, .flts .f64 (2 * len) (fI g), 2⟩), (9, ⟨true, 150, .cells (rectS l0 true (fI g0) 10 0), 0⟩), (10, ⟨true, 100, .flts .f64 (2 * l0) (fI g0), 2⟩), (11, ⟨true, 150, .cells (rectS l1 true (fI g1) 12 0), 0⟩), (12, ⟨true, 100, .flts .f64 (2 * l1) (fI g1), 2⟩)], some (2 * len = 2 * len ∧ 2 * l0 = 2 * l0 ∧ 2 * l1 = 2 * l1 ∧ km = 0 ∧ (len ≤ 1000000 ∧ (ppBig len true = true → ppOk (fI g) len)) ∧ (l0 ≤ 1000000 ∧ (ppBig l0 true = true → ppOk (fI g0) l0)) ∧ (l1 ≤ 1000000 ∧ (ppBig l1 true = true → ppOk (fI g1) l1)))⟩ S v) = (
(false = true → False) ∧ (false = false → (false = true → (2 * len = 2 * len ∧ len ≤ 1000000) ∧ False) ∧ (false = false → (true = true → (∃ (_ : Nat), True ∧ ((True ∧ 0 = 0) ∧ (True ∧ 0 = 0) ∧
 True ∧ (True ∧ 2 = 2) ∧ (2 : Int) = 2 ∧ (0 : Int) = 0 ∧ True) ∧ True ∧ (2 * len ≤ 2 * len ∧ ∀ (i : Nat), i < 2 * len → g i = g i) ∧ True ∧ ((True ∧ l0 = l0) ∧ (True ∧ l1 = l1) ∧ True) ∧ True ∧
(2 * l0 ≤ 2 * l0 ∧ ∀ (i : Nat), i < 2 * l0 → g0 i = g0 i) ∧ True ∧ (2 * l1 ≤ 2 * l1 ∧ ∀ (i : Nat), i < 2 * l1 → g1 i = g1 i) ∧ True ∧ (km = km ∧ mm = mm ∧ True) ∧ True ∧ (39 = 39 ∧ 0 = 0 ∧ (3 : Int) = 3 ∧ (True ∧ len = len) ∧ (True ∧ 2 = 2) ∧ True) ∧ True) ∧ (∀ (_ : Nat), True → (true = true → (((0 : Int) ≤ 0 ∧ (0 : Int) < 2) ∧ True) ∧ (2 * l0 = 2 * l0 ∧ l0 ≤
1000000) ∧ ∃ (_ : Nat), True ∧ ((True ∧ 0 = 0) ∧ (True ∧ 0 = 0) ∧ (True ∧ 1 = 1) ∧ (True ∧ 2 = 2) ∧ (2 : Int) = 2 ∧ (1 : Int) = 1 ∧ True) ∧ True ∧ (2 *
 len ≤ 2 * len ∧ ∀ (i : Nat), i < 2 * len → g i = g i) ∧ True ∧ ((True ∧ l0 = l0) ∧ (True ∧ l1 = l1) ∧ True) ∧ True ∧ (2 * l0 ≤ 2 * l0 ∧ ∀ (i : Nat), i < 2 * l0 → g0 i = g0 i) ∧ True ∧ (2 * l1 ≤ 2 * l1 ∧ ∀ (i : Nat), i < 2 * l1 → g1 i = g1 i) ∧ True ∧ (km = km ∧ mm = mm ∧ True) ∧ True ∧ (39 = 39 ∧ 0 = 0 ∧ (3 : Int) = 3 ∧ (True ∧ len = len) ∧ (True ∧ 2 = 2) ∧ True) ∧ True ∧
(118 = 118 ∧ 1 = 1 ∧ (True ∧ l0 = l0) ∧ True) ∧ True ∧ (100 = 100 ∧ 2 = 2 ∧ 2 * l0 ≤ 2 * l0 ∧ ∀ (i : Nat), i < 2 * l0 → fI g0 i =
 fI g0 i) ∧ True) ∧ (true = false → (2 * len = 2 * len ∧ len ≤ 1000000) ∧ False)) ∧ (∀ (_ : Nat), True → (true = true → (((0 : Int) ≤ 1 ∧ (1 : Int) < 2) ∧ True) ∧ (2 * l1 = 2 *
 l1 ∧ l1 ≤ 1000000) ∧ (List.length [SV.slcc 7 l0] = 1 ∧ 48 ≤ 140737488355328 ∧ 2 ≤ 9223372036854775807) ∧ ∃ (_ : Nat), True ∧ ((True ∧ 0 = 0) ∧ (True ∧ 0 = 0) ∧
(True ∧ 2 = 2) ∧ (True ∧ 2 = 2) ∧ (2 : Int) = 2 ∧ (2 : Int) = 2 ∧ True) ∧ True ∧ (2 * len ≤ 2 * len ∧ ∀ (i : Nat), i < 2 * len → g i = g i) ∧ True ∧ ((True ∧ l0 = l0) ∧ (True ∧
 l1 = l1) ∧ True) ∧ True ∧ (2 * l0 ≤ 2 * l0 ∧ ∀ (i : Nat), i < 2 * l0 → g0 i = g0 i) ∧ True ∧ (2 * l1 ≤ 2 * l1 ∧ ∀ (i : Nat), i < 2 * l1 → g1 i = g1 i) ∧ True ∧ (km = km ∧ mm = mm ∧ True) ∧ True ∧ (39 = 39 ∧ 0 = 0 ∧ (3 : Int) = 3 ∧ (True ∧ len = len) ∧ (True ∧ 2 = 2) ∧ True) ∧ True ∧ (118 = 118 ∧ 1 = 1 ∧ (True ∧ l0 = l0) ∧ (True ∧ l1 = l1) ∧ True) ∧ True ∧ (100 = 100 ∧ 2 = 2 ∧ 2 * l0 ≤ 2 * l0 ∧ ∀ (i : Nat), i < 2 * l0 → fI g0 i = fI g0 i) ∧ True ∧ (100 = 100 ∧ 2 = 2 ∧ 2 * l1 ≤ 2 * l1 ∧ ∀ (i : Nat), i < 2 * l1 → fI g1 i = fI g1 i) ∧ True) ∧ (true = false → (2 * len = 2 * len ∧ len ≤ 1000000) ∧ False)) ∧ (∀ (_ : Nat), True → (false = true → (((0 : Int)
≤ (2 : Int) ∧ (2 : Int) < 2) ∧ True) ∧ False) ∧ (false = false → (2 * len = 2 * len ∧ len ≤ 1000000) ∧ (2 * len = 2 * len ∧ 2 * l0 = 2 * l0 ∧ 2 * l1 = 2 * l1 ∧ km = (0 :
 Int) ∧ (len ≤ 1000000 ∧ (ppBig len true = true → ppOk (fI g) len)) ∧ (l0 ≤ 1000000 ∧ (ppBig l0 true = true → ppOk (fI g0) l0))
∧ l1 ≤ 1000000 ∧ (ppBig l1 true = true → ppOk (fI g1) l1)) ∧ (True ∧ 0 = 0) ∧ True ∧ (137 = 137 ∧ 0 = 0 ∧ (True ∧ 0 = 0) ∧
(True ∧ 2 = 2) ∧ True) ∧ True ∧ (106 = 106 ∧ 1 = 1 ∧ (True ∧ 0 = 0) ∧ (True ∧ 0 = 0) ∧ True) ∧ True ∧ (150 = 150 ∧ 0 = 0 ∧ true = true ∧
(ppBig len true && fGt .f64 (cwF (fI g) len len) 0) = (ppBig len true && fGt .f64 (cwF (fI g) len len) 0) ∧
(ppBig len true && !(dcF (fI g) len len).2) = (ppBig len true && !(dcF (fI g) len len).2) ∧ (0 : Int) = 0 ∧ True ∧
 pick (ppBig len true) (rlo (fI g) 0 len) = pick (ppBig len true) (rlo (fI g) 0 len) ∧
 pick (ppBig len true) (rlo (fI g) 1 len) = pick (ppBig len true) (rlo (fI g) 1 len) ∧
 pick (ppBig len true) (rhi (fI g) 0 len) = pick (ppBig len true) (rhi (fI g) 0 len) ∧
 pick (ppBig len true) (rhi (fI g) 1 len) = pick (ppBig len true) (rhi (fI g) 1 len) ∧
(True ∧ len = len) ∧ True) ∧ True ∧ (100 = 100 ∧ 2 = 2 ∧ 2 * len ≤ 2 * len ∧ ∀ (i : Nat), i < 2 * len → fI g i = fI g i) ∧ True ∧ (150 = 150 ∧
0 = 0 ∧ true = true ∧ (ppBig l0 true && fGt .f64 (cwF (fI g0) l0 l0) 0) = (ppBig l0 true && fGt .f64 (cwF
(fI g0) l0 l0) 0) ∧ (ppBig l0 true && !(dcF (fI g0) l0 l0).2) = (ppBig l0 true && !(dcF (fI g0) l0
 l0).2) ∧ (0 : Int) = 0 ∧ True ∧ pick (ppBig l0 true) (rlo (fI g0) 0 l0) = pick (ppBig l0 true) (rlo
(fI g0) 0 l0) ∧ pick (ppBig l0 true) (rlo (fI g0) 1 l0) = pick (ppBig l0 true) (rlo
(fI g0) 1 l0) ∧ pick (ppBig l0 true) (rhi (fI g0) 0 l0) = pick (ppBig l0 true) (rhi
(fI g0) 0 l0) ∧ pick (ppBig l0 true) (rhi (fI g0) 1 l0) = pick (ppBig l0 true) (rhi
(fI g0) 1 l0) ∧ (True ∧ l0 = l0) ∧ True) ∧ True ∧ (100 = 100 ∧ 2 = 2 ∧ 2 * l0 ≤ 2 * l0 ∧ ∀ (i : Nat), i < 2 * l0 → fI g0 i = fI g0
 i) ∧ True ∧ (150 = 150 ∧ 0 = 0 ∧ true = true ∧ (ppBig l1 true && fGt .f64 (cwF (fI g1) l1 l1) 0) = (ppBig l1 true && fGt .f64
(cwF (fI g1) l1 l1) 0) ∧ (ppBig l1 true && !(dcF (fI g1) l1 l1).2) = (ppBig l1 true && !(dcF
(fI g1) l1 l1).2) ∧ (0 : Int) = 0 ∧ True ∧ pick (ppBig l1 true) (rlo (fI g1) 0 l1) = pick (ppBig l1 true)
(rlo (fI g1) 0 l1) ∧ pick (ppBig l1 true) (rlo (fI g1) 1 l1) = pick (ppBig l1 true)
(rlo (fI g1) 1 l1) ∧ pick (ppBig l1 true) (rhi (fI g1) 0 l1) = pick (ppBig l1 true)
(rhi (fI g1) 0 l1) ∧ pick (ppBig l1 true) (rhi (fI g1) 1 l1) = pick (ppBig l1 true)
(rhi (fI g1) 1 l1) ∧ (True ∧ l1 = l1) ∧ True) ∧ True ∧ (100 = 100 ∧ 2 = 2 ∧ 2 * l1 ≤ 2 * l1 ∧ ∀ (i : Nat), i < 2 * l1 → fI g1 i =
 fI g1 i) ∧ True)) ∧ True) ∧ (true = false → False)))) := by kernel_rfl
theorem shP2 : ConOk Tryz.prog 63 (conR shP2C) := by
 refine con_of_vc gSP2 Tryz.func63 rfl (by kernel_rfl) fun args => ?_
 unfold shP2C
 split
 · rename_i n len h o
   intro o0
   show RdM.All _ (match intsFrom .i64 o0.c with | some (m, g) => _ | none => _) _
   split
   · rename_i m0 g hm0
     intro o1
     show RdM.All _ (match hol2 o1.c with | some (q0, l0, q1, l1) => _ | none => _) _
     split
     · rename_i q0 l0 q1 l1 hm1
       intro o2
       show RdM.All _ (match intsFrom .i64 o2.c with | some (m, g) => _ | none => _) _
       split
       · rename_i m2 g0 hm2
         intro o3
         show RdM.All _ (match intsFrom .i64 o3.c with | some (m, g) => _ | none => _) _
         split
         · rename_i m3 g1 hm3
           intro o4
           show RdM.All _ (match optOf o4.c with | some (km, mm) => _ | none => _) _
           split
           · rename_i km mm hm4
             intro ho
             replace ho : m0 = 2 * len ∧ m2 = 2 * l0 ∧ m3 = 2 * l1 ∧ km = 0 ∧ (len ≤ 1000000 ∧ (ppBig len true = true → ppOk (fI g) len)) ∧ (l0 ≤ 1000000 ∧ (ppBig l0 true = true → ppOk (fI g0) l0)) ∧ (l1 ≤ 1000000 ∧ (ppBig l1 true = true → ppOk (fI g1) l1)) := ho
             obtain ⟨hsz0, hsz2, hsz3, ho⟩ := ho
             subst hsz0
             subst hsz2
             subst hsz3
             refine ⟨?_, _, _, (vc_shP2 len km mm l0 l1 q0 q1 g g0 g1).mpr ?_⟩
             · refine okFlag_mk rfl ⟨?_, ⟨trivial, (contR_ints hm0).1, ⟨trivial, hol2_spec hm1 (by simp [sgSig, fsts, nth, sameN_self]) (by simp [sgSig, fsts, nth, sameN_self]), ⟨trivial, (contR_ints hm2).1, ⟨trivial, (contR_ints hm3).1, ⟨trivial, optOf_spec hm4, trivial⟩⟩⟩⟩⟩⟩
               simp [eqvRL, eqvR, kEq_self, sgSig, fsts, nth, sameN_self]
             · obtain ⟨hk, ⟨h1, h2⟩, ⟨a0, b0⟩, a1, b1⟩ := ho
               simp [hk, h1, a0, a1]
               exact ⟨h2, b0, b1⟩
           · trivial
         · trivial
       · trivial
     · trivial
   · trivial
 · trivial
noncomputable def nPo3C : List SV → RdM
 | [.slcc n len, .slcc h 3, .ptr o 0] => .read n fun o0 => (match fltsFrom .f64 o0.c with
   | some (m0, g) => .read h fun o1 => (match hol3 o1.c with
   | some (q0, l0, q1, l1, q2, l2) => .read q0 fun o2 => (match fltsFrom .f64 o2.c with
   | some (m2, g0) => .read q1 fun o3 => (match fltsFrom .f64 o3.c with
   | some (m3, g1) => .read q2 fun o4 => (match fltsFrom .f64 o4.c with
   | some (m4, g2) => .read o fun o5 => (match optOf o5.c with
   | some (km, mm) => .ret ⟨[.slcc 0 len, .slcc 1 3, .ptr 5 0], [(0, ⟨false, 100, .flts .f64 m0 g, 0⟩), (1, ⟨false, 118, .cells [.slcc 2 l0, .slcc 3 l1, .slcc 4 l2], 0⟩), (2, ⟨false, 100, .flts .f64 m2 g0, 0⟩), (3, ⟨false, 100, .flts .f64 m3 g1, 0⟩), (4, ⟨false, 100, .flts .f64 m4 g2, 0⟩), (5, ⟨false, 148, optC km mm, 0⟩)], .ptr 6 0, [], [(6, ⟨true, 137, .cells [.ifc 157 (.ptr 8 0), .slcc 7 3], 0⟩), (7, ⟨true, 106, .cells [.ifc 157 (.ptr 10 0), .ifc 157 (.ptr 12 0), .ifc 157 (.ptr 14 0)], 1⟩), (8, ⟨true, 150, .cells (rectS len true g 9 0), 0⟩), (9, ⟨true, 100, .flts .f64 (2 * len) g, 2⟩), (10, ⟨true, 150, .cells (rectS l0 true g0 11 0), 0⟩), (11, ⟨true, 100, .flts .f64 (2 * l0) g0, 2⟩), (12, ⟨true, 150, .cells (rectS l1 true g1 13 0), 0⟩), (13, ⟨true, 100, .flts .f64 (2 * l1) g1, 2⟩), (14, ⟨true, 150, .cells (rectS l2 true g2 15 0), 0⟩), (15, ⟨true, 100, .flts .f64 (2 * l2) g2, 2⟩)], some (m0 = 2 * len ∧ m2 = 2 * l0 ∧ m3 = 2 * l1 ∧ m4 = 2 * l2 ∧ km = 0 ∧ (len ≤ 1000000 ∧ (ppBig len true = true → ppOk g len)) ∧ (l0 ≤ 1000000 ∧ (ppBig l0 true = true → ppOk g0 l0)) ∧ (l1 ≤ 1000000 ∧ (ppBig l1 true = true → ppOk g1 l1)) ∧ (l2 ≤ 1000000 ∧ (ppBig l2 true = true → ppOk g2 l2)))⟩
   | none => .fail)
   | none => .fail)
   | none => .fail)
   | none => .fail)
   | none => .fail)
   | none => .fail)
 | _ => .fail
theorem vc_nPo3 (len : Nat) (km mm : Int) (l0 l1 l2 : Nat) (_ _ _ : Nm)  (g : Nat → Nat) (g0 : Nat → Nat) (g1 : Nat → Nat) (g2 : Nat → Nat) : runA GNP 6 [(6, .unr [⟨Nat, fun _ => ⟨44, [(1, .slcc 1 3), (2, .ptr 5 0), (7, .ptr 6 0), (26, .int .i64 3), (27, .int .i64 0)], [(1, ⟨false, 118, .cells [.slcc 2 l0, .slcc 3 l1, .slcc 4 l2], 0⟩), (2, ⟨false, 100, .flts .f64 (2 * l0) g0, 0⟩), (3, ⟨false, 100, .flts .f64 (2 * l1) g1, 0⟩), (4, ⟨false, 100, .flts .f64 (2 * l2) g2, 0⟩), (5, ⟨false, 148, optC km mm, 0⟩), (6, ⟨true, 137, .cells [.ifc 157 (.ptr 8 0), .slcc 7 3], 0⟩), (7, ⟨true, 106, .cells [.nili, .nili, .nili], 1⟩), (8, ⟨true, 150, .cells (rectS len true g 9 0), 0⟩), (9, ⟨true, 100, .flts .f64 (2 * len) g, 2⟩)], 10⟩, fun _ => True, fun _ => 0⟩, ⟨Nat, fun _ => ⟨44, [(1, .slcc 1 3), (2, .ptr 5 0), (7, .ptr 6 0), (26, .int .i64 3), (27, .int .i64 1)], [(1, ⟨false, 118, .cells [.slcc 2 l0, .slcc 3 l1, .slcc 4 l2], 0⟩), (2, ⟨false, 100, .flts .f64 (2 * l0) g0, 0⟩), (3, ⟨false, 100, .flts .f64 (2 * l1) g1, 0⟩), (4, ⟨false, 100, .flts .f64 (2 * l2) g2, 0⟩), (5, ⟨false, 148, optC km mm, 0⟩), (6, ⟨true, 137, .cells [.ifc 157 (.ptr 8 0), .slcc 7 3], 0⟩), (7, ⟨true, 106, .cells [.ifc 157 (.ptr 10 0), .nili, .nili], 1⟩), (8, ⟨true, 150, .cells (rectS len true g 9 0), 0⟩), (9, ⟨true, 100, .flts .f64 (2 * len) g, 2⟩), (10, ⟨true, 150, .cells (rectS l0 true g0 11 0), 0⟩), (11, ⟨true, 100, .flts .f64 (2 * l0) g0, 2⟩)], 12⟩, fun _ => True, fun _ => 0⟩, ⟨Nat, fun _ => ⟨44, [(1, .slcc 1 3), (2, .ptr 5 0), (7, .ptr 6 0), (26, .int .i64 3), (27, .int .i64 2)], [(1, ⟨false, 118, .cells [.slcc 2 l0, .slcc 3 l1, .slcc 4 l2], 0⟩), (2, ⟨false, 100, .flts .f64 (2 * l0) g0, 0⟩), (3, ⟨false, 100, .flts .f64 (2 * l1) g1, 0⟩), (4, ⟨false, 100, .flts .f64 (2 * l2) g2, 0⟩), (5, ⟨false, 148, optC km mm, 0⟩), (6, ⟨true, 137, .cells [.ifc 157 (.ptr 8 0), .slcc 7 3], 0⟩), (7, ⟨true, 106, .cells [.ifc 157 (.ptr 10 0), .ifc 157 (.ptr 12 0), .nili], 1⟩), (8, ⟨true, 150, .cells (rectS len true g 9 0), 0⟩), (9, ⟨true, 100, .flts .f64 (2 * len) g, 2⟩), (10, ⟨true, 150, .cells (rectS l0 true g0 11 0), 0⟩), (11, ⟨true, 100, .flts .f64 (2 * l0) g0, 2⟩), (12, ⟨true, 150, .cells (rectS l1 true g1 13 0), 0⟩), (13, ⟨true, 100, .flts .f64 (2 * l1) g1, 2⟩)], 14⟩, fun _ => True, fun _ => 0⟩, ⟨Nat, fun _ => ⟨44, [(1, .slcc 1 3), (2, .ptr 5 0), (7, .ptr 6 0), (26, .int .i64 3), (27, .int .i64 3)], [(1, ⟨false, 118, .cells [.slcc 2 l0, .slcc 3 l1, .slcc 4 l2], 0⟩), (2, ⟨false, 100, .flts .f64 (2 * l0) g0, 0⟩), (3, ⟨false, 100, .flts .f64 (2 * l1) g1, 0⟩), (4, ⟨false, 100, .flts .f64 (2 * l2) g2, 0⟩), (5, ⟨false, 148, optC km mm, 0⟩), (6, ⟨true, 137, .cells [.ifc 157 (.ptr 8 0), .slcc 7 3], 0⟩), (7, ⟨true, 106, .cells [.ifc 157 (.ptr 10 0), .ifc 157 (.ptr 12 0), .ifc 157 (.ptr 14 0)], 1⟩), (8, ⟨true, 150, .cells (rectS len true g 9 0), 0⟩), (9, ⟨true, 100, .flts .f64 (2 * len) g, 2⟩), (10, ⟨true, 150, .cells (rectS l0 true g0 11 0), 0⟩), (11, ⟨true, 100, .flts .f64 (2 * l0) g0, 2⟩), (12, ⟨true, 150, .cells (rectS l1 true g1 13 0), 0⟩), (13, ⟨true, 100, .flts .f64 (2 * l1) g1, 2⟩), (14, ⟨true, 150, .cells (rectS l2 true g2 15 0), 0⟩), (15, ⟨true, 100, .flts .f64 (2 * l2) g2, 2⟩)], 16⟩, fun _ => True, fun _ => 0⟩])] [] (codeOf Tryz.f91) (init Tryz.f91.ntmps [.slcc 0 len, .slcc 1 3, .ptr 5 0] [(0, ⟨false, 100, .flts .f64 (2 * len) g, 0⟩), (1, ⟨false, 118, .cells [.slcc 2 l0, .slcc 3 l1, .slcc 4 l2], 0⟩), (2, ⟨false, 100, .flts .f64 (2 * l0) g0, 0⟩), (3, ⟨false, 100, .flts .f64 (2 * l1) g1, 0⟩), (4, ⟨false, 100, .flts .f64 (2 * l2) g2, 0⟩), (5, ⟨false, 148, optC km mm, 0⟩)] 6) (endK GNP.E.T Tryz.f91.results.toList fun S v => postP 6 ⟨[.slcc 0 len, .slcc 1 3, .ptr 5 0], [(0, ⟨false, 100, .flts .f64 (2 * len) g, 0⟩), (1, ⟨false, 118, .cells [.slcc 2 l0, .slcc 3 l1, .slcc 4 l2], 0⟩), (2, ⟨false, 100, .flts .f64 (2 * l0) g0, 0⟩), (3, ⟨false, 100, .flts .f64 (2 * l1) g1, 0⟩), (4, ⟨false, 100, .flts .f64 (2 * l2) g2, 0⟩), (5, ⟨false, 148, optC km mm, 0⟩)], .ptr 6 0, [], [(6, ⟨true, 137, .cells [.ifc 157 (.ptr 8 0), .slcc 7 3], 0⟩), (7, ⟨true, 106, .cells [.ifc 157 (.ptr 10 0), .ifc 157 (.ptr 12 0), .ifc 157 (.ptr 14 0)], 1⟩), (8, ⟨true, 150, .cells (rectS len true g 9 0), 0⟩), (9, ⟨true, 100, .flts .f64 (2 * len) g, 2⟩), (10, ⟨true, 150, .cells (rectS l0 true g0 11 0), 0⟩), (11, ⟨true, 100, .flts .f64 (2 * l0) g0, 2⟩), (12, ⟨true, 150, .cells (rectS l1 true g1 13 0), 0⟩), (13, ⟨true, 100, .flts .f64 (2 * l1) g1, 2⟩), (14, ⟨true, 150, .cells (rectS l2 true g2 15 0), 0⟩), (15, ⟨true, 100, .flts .f64 (2 * l2) g2, 2⟩)], some (2 * len = 2 * len ∧ 2 * l0 = 2 * l0 ∧ 2 * l1 = 2 * l1 ∧ 2 * l2 = 2 * l2 ∧ km = 0 ∧ (len ≤ 1000000 ∧ (ppBig len true = true → ppOk g len)) ∧ (l0 ≤ 1000000 ∧ (ppBig l0 true = true → ppOk g0 l0)) ∧ (l1 ≤ 1000000 ∧ (ppBig l1 true = true → ppOk g1 l1)) ∧ (l2 ≤ 1000000 ∧ (ppBig l2 true = true → ppOk g2 l2)))⟩ S v) = (
(2 * len = 2 * len ∧ km = (0 : Int) ∧ len ≤ 1000000 ∧ (ppBig len true = true → ppOk g len)) ∧ (true = true → ((3 : Int) = 3 ∧ (0 : Int) ≤ 3 ∧ (3 : Int) ≤ (9223372036854775807
: Int) ∧ (48 : Int) ≤ 140737488355328) ∧ (∃ (_ : Nat), True ∧ ((True ∧ 3 = 3) ∧ (True ∧ 0 = 0) ∧ (True ∧ 0 = 0) ∧ (3 : Int) = 3 ∧ (0 : Int) = 0 ∧ True) ∧ True ∧ ((True ∧ l0 = l0)
∧ (True ∧ l1 = l1) ∧ (True ∧ l2 = l2) ∧ True) ∧ True ∧ (2 * l0 ≤ 2 * l0 ∧ ∀ (i : Nat), i < 2 * l0 → g0 i = g0 i) ∧ True ∧ (2 * l1 ≤ 2 * l1 ∧ ∀ (i : Nat), i < 2 * l1 → g1 i = g1 i) ∧ True ∧ (2 *
 l2 ≤ 2 * l2 ∧ ∀ (i : Nat), i < 2 * l2 → g2 i = g2 i) ∧ True ∧ (km = km ∧ mm = mm ∧ True) ∧ True ∧ (137 = 137 ∧ 0 = 0 ∧ (True ∧ 0 = 0) ∧ (True ∧ 3 = 3) ∧ True) ∧ True ∧
(106 = 106 ∧ 1 = 1 ∧ True ∧ True ∧ True ∧ True) ∧ True ∧ (150 = 150 ∧ 0 = 0 ∧ true = true ∧ (ppBig len true && fGt .f64 (cwF g len len) 0) = (ppBig len true && fGt .f64 (cwF g len len) 0) ∧ (ppBig len true && !(dcF g len len).2) = (ppBig len true && !Prod.snd
(dcF g len len)) ∧ (0 : Int) = 0 ∧ True ∧ pick (ppBig len true) (rlo g 0 len) = pick (ppBig len true) (rlo g
0 len) ∧ pick (ppBig len true) (rlo g 1 len) = pick (ppBig len true) (rlo g 1 len) ∧ pick
(ppBig len true) (rhi g 0 len) = pick (ppBig len true) (rhi g 0 len) ∧ pick (ppBig len true)
(rhi g 1 len) = pick (ppBig len true) (rhi g 1 len) ∧ (True ∧ len = len) ∧ True) ∧ True ∧ (100 = 100 ∧ 2 = 2 ∧ 2 * len ≤
2 * len ∧ ∀ (i : Nat), i < 2 * len → g i = g i) ∧ True) ∧ (∀ (_ : Nat), True → (true = true → (((0 : Int) ≤ 0 ∧ (0 : Int) < 3) ∧ True) ∧ (2 * l0 = 2 * l0 ∧ km = (0 : Int) ∧ l0 ≤ 1000000 ∧
(ppBig l0 true = true → ppOk g0 l0)) ∧ (((0 : Int) ≤ 0 ∧ (0 : Int) < 3) ∧ True) ∧ true = true ∧ ∃ (_ : Nat), True ∧ ((True ∧ 3 = 3) ∧ (True ∧ 0 = 0) ∧ (True ∧ 0 = 0) ∧ (3 : Int) = 3 ∧ (1 : Int) = 1 ∧ True) ∧ True ∧ ((True ∧ l0 = l0) ∧ (True ∧ l1 = l1) ∧ (True ∧ l2 = l2) ∧ True) ∧ True ∧ (2 * l0 ≤ 2 * l0 ∧ ∀ (i : Nat), i < 2 * l0 → g0 i = g0 i) ∧ True ∧ (2 * l1 ≤ 2 * l1 ∧ ∀ (i : Nat), i < 2 * l1 → g1 i = g1 i) ∧ True ∧ (2 * l2 ≤ 2 * l2 ∧ ∀ (i : Nat), i < 2 * l2 → g2 i = g2 i) ∧ True ∧ (km = km ∧ mm = mm ∧ True) ∧ True ∧ (137 = 137 ∧ 0 = 0 ∧ (True ∧ 0 = 0) ∧ (True ∧ 3 = 3) ∧ True) ∧ True ∧ (106 = 106 ∧ 1 = 1 ∧ (True ∧ 0 = 0) ∧ True ∧ True ∧ True) ∧ True ∧ (150 = 150 ∧ 0 = 0 ∧ true = true ∧ (ppBig len true && fGt .f64 (cwF g len len) 0) = (ppBig len true && fGt .f64 (cwF g len len) 0) ∧
(ppBig len true && !(dcF g len len).2) = (ppBig len true && !(dcF g len len).2) ∧ (0 : Int) = 0 ∧ True ∧ pick (ppBig len
 true) (rlo g 0 len) = pick (ppBig len true) (rlo g 0 len) ∧ pick (ppBig len true) (rlo g 1 len) =
 pick (ppBig len true) (rlo g 1 len) ∧ pick (ppBig len true) (rhi g 0 len) = pick (ppBig
 len true) (rhi g 0 len) ∧ pick (ppBig len true) (rhi g 1 len) = pick (ppBig len true) (rhi g 1 len)
∧ (True ∧ len = len) ∧ True) ∧ True ∧ (100 = 100 ∧ 2 = 2 ∧ 2 * len ≤ 2 * len ∧ ∀ (i : Nat), i < 2 * len → g i = g i) ∧ True ∧ (150 = 150 ∧ 0 = 0 ∧ true = true ∧
(ppBig l0 true && fGt .f64 (cwF g0 l0 l0) 0) = (ppBig l0 true && fGt .f64 (cwF g0 l0 l0) 0) ∧ (ppBig l0 true && !Prod.snd
(dcF g0 l0 l0)) = (ppBig l0 true && !(dcF g0 l0 l0).2) ∧ (0 : Int) = 0 ∧ True ∧ pick (ppBig l0 true) (rlo g0 0 l0) =
 pick (ppBig l0 true) (rlo g0 0 l0) ∧ pick (ppBig l0 true) (rlo g0 1 l0) = pick (ppBig l0
 true) (rlo g0 1 l0) ∧ pick (ppBig l0 true) (rhi g0 0 l0) = pick (ppBig l0 true) (rhi g0 0 l0) ∧
 pick (ppBig l0 true) (rhi g0 1 l0) = pick (ppBig l0 true) (rhi g0 1 l0) ∧ (True ∧ l0 = l0) ∧ True) ∧ True ∧ (100 =
100 ∧ 2 = 2 ∧ 2 * l0 ≤ 2 * l0 ∧ ∀ (i : Nat), i < 2 * l0 → g0 i = g0 i) ∧ True) ∧ (true = false → (True ∧ 0 = 0) ∧ True ∧ (137 = 137 ∧ 0 = 0 ∧ (True ∧ 0 = 0) ∧ (True ∧ 3 = 3) ∧ True) ∧ True ∧ (106 = 106 ∧ 1 = 1 ∧ False ∧ False ∧ False ∧ True) ∧ True ∧ (150 = 150 ∧ 0 = 0 ∧ true = true ∧
(ppBig len true && fGt .f64 (cwF g len len) 0) = (ppBig len true && fGt .f64 (cwF g len len) 0) ∧ (ppBig len true && !Prod.snd
(dcF g len len)) = (ppBig len true && !(dcF g len len).2) ∧ (0 : Int) = 0 ∧ True ∧ pick (ppBig len true) (rlo g 0 len)
= pick (ppBig len true) (rlo g 0 len) ∧ pick (ppBig len true) (rlo g 1 len) = pick (ppBig
 len true) (rlo g 1 len) ∧ pick (ppBig len true) (rhi g 0 len) = pick (ppBig len true) (rhi g 0 len)
∧ pick (ppBig len true) (rhi g 1 len) = pick (ppBig len true) (rhi g 1 len) ∧ (True ∧ len = len) ∧ True) ∧ True ∧ (100
= 100 ∧ 2 = 2 ∧ 2 * len ≤ 2 * len ∧ ∀ (i : Nat), i < 2 * len → g i = g i) ∧ True ∧ List.length (rectS l0 true g0 11 (0 : Int)) = 0 ∧ True ∧ 2 * l0 = 0 ∧
 True ∧ List.length (rectS l1 true g1 13 (0 : Int)) = 0 ∧ True ∧ 2 * l1 = 0 ∧ True ∧ List.length (rectS l2 true g2 15 (0 : Int)) = 0 ∧ True ∧ 2 * l2 = 0 ∧ True)) ∧ (∀ (_ : Nat), True → (true = true → (((0 : Int) ≤ 1 ∧ (1 : Int) < 3) ∧ True) ∧ (2 * l1 = 2 * l1 ∧ km = (0 : Int) ∧ l1 ≤ 1000000 ∧ (ppBig l1 true = true → ppOk
 g1 l1)) ∧ (((0 : Int) ≤ 1 ∧ (1 : Int) < 3) ∧ True) ∧ true = true ∧ ∃ (_ : Nat), True ∧ ((True ∧ 3 = 3) ∧ (True ∧ 0 = 0) ∧ (True ∧ 0 = 0) ∧ (3 : Int) = 3 ∧ (2 : Int) = 2 ∧
 True) ∧ True ∧ ((True ∧ l0 = l0) ∧ (True ∧ l1 = l1) ∧ (True ∧ l2 = l2) ∧ True) ∧ True ∧ (2 * l0 ≤ 2 * l0 ∧ ∀ (i : Nat), i < 2 * l0 → g0 i = g0 i) ∧ True ∧ (2 * l1 ≤ 2 * l1 ∧ ∀ (i : Nat), i < 2 * l1 → g1
 i = g1 i) ∧ True ∧ (2 * l2 ≤ 2 * l2 ∧ ∀ (i : Nat), i < 2 * l2 → g2 i = g2 i) ∧ True ∧ (km = km ∧ mm = mm ∧ True) ∧ True ∧ (137 = 137 ∧ 0 = 0 ∧ (True ∧ 0 = 0) ∧ (True ∧ 3
= 3) ∧ True) ∧ True ∧ (106 = 106 ∧ 1 = 1 ∧ (True ∧ 0 = 0) ∧ (True ∧ 0 = 0) ∧ True ∧ True) ∧ True ∧ (150 = 150 ∧ 0 = 0 ∧ true = true ∧
(ppBig len true && fGt .f64 (cwF g len len) 0) = (ppBig len true && fGt .f64 (cwF g len len) 0) ∧ (ppBig len true && !Prod.snd
(dcF g len len)) = (ppBig len true && !(dcF g len len).2) ∧ (0 : Int) = 0 ∧ True ∧ pick (ppBig len true) (rlo g 0 len)
= pick (ppBig len true) (rlo g 0 len) ∧ pick (ppBig len true) (rlo g 1 len) = pick (ppBig
 len true) (rlo g 1 len) ∧ pick (ppBig len true) (rhi g 0 len) = pick (ppBig len true) (rhi g 0 len)
∧ pick (ppBig len true) (rhi g 1 len) = pick (ppBig len true) (rhi g 1 len) ∧ (True ∧ len = len) ∧ True) ∧ True ∧ (100
= 100 ∧ 2 = 2 ∧ 2 * len ≤ 2 * len ∧ ∀ (i : Nat), i < 2 * len → g i = g i) ∧ True ∧ (150 = 150 ∧ 0 = 0 ∧ true = true ∧ (ppBig l0 true && fGt .f64
(cwF g0 l0 l0) 0) = (ppBig l0 true && fGt .f64 (cwF g0 l0 l0) 0) ∧ (ppBig l0 true && !(dcF g0 l0 l0).2) = (ppBig
 l0 true && !(dcF g0 l0 l0).2) ∧ (0 : Int) = 0 ∧ True ∧ pick (ppBig l0 true) (rlo g0 0 l0) = pick (ppBig l0 true)
(rlo g0 0 l0) ∧ pick (ppBig l0 true) (rlo g0 1 l0) = pick (ppBig l0 true) (rlo g0 1 l0) ∧
 pick (ppBig l0 true) (rhi g0 0 l0) = pick (ppBig l0 true) (rhi g0 0 l0) ∧ pick (ppBig l0
 true) (rhi g0 1 l0) = pick (ppBig l0 true) (rhi g0 1 l0) ∧ (True ∧ l0 = l0) ∧ True) ∧ True ∧ (100 = 100 ∧ 2 = 2 ∧ 2 * l0 ≤
2 * l0 ∧ ∀ (i : Nat), i < 2 * l0 → g0 i = g0 i) ∧ True ∧ (150 = 150 ∧ 0 = 0 ∧ true = true ∧ (ppBig l1 true && fGt .f64 (cwF g1 l1 l1) 0) =
(ppBig l1 true && fGt .f64 (cwF g1 l1 l1) 0) ∧ (ppBig l1 true && !(dcF g1 l1 l1).2) = (ppBig l1 true && !(dcF g1
 l1 l1).2) ∧ (0 : Int) = 0 ∧ True ∧ pick (ppBig l1 true) (rlo g1 0 l1) = pick (ppBig l1 true) (rlo g1 0 l1) ∧
 pick (ppBig l1 true) (rlo g1 1 l1) = pick (ppBig l1 true) (rlo g1 1 l1) ∧ pick (ppBig l1
 true) (rhi g1 0 l1) = pick (ppBig l1 true) (rhi g1 0 l1) ∧ pick (ppBig l1 true) (rhi g1 1 l1) =
 pick (ppBig l1 true) (rhi g1 1 l1) ∧ (True ∧ l1 = l1) ∧ True) ∧ True ∧ (100 = 100 ∧ 2 = 2 ∧ 2 * l1 ≤ 2 * l1 ∧ ∀ (i : Nat), i < 2 *
 l1 → g1 i = g1 i) ∧ True) ∧ (true = false → (True ∧ 0 = 0) ∧ True ∧ (137 = 137 ∧ 0 = 0 ∧ (True ∧ 0 = 0) ∧ (True ∧ 3 = 3) ∧ True) ∧ True ∧ (106 = 106 ∧ 1 = 1 ∧ (True ∧ 0 = 0) ∧ False ∧ False ∧ True) ∧ True ∧ (150 = 150 ∧ 0 = 0 ∧ true = true ∧ (ppBig len true && fGt .f64 (cwF g len len) 0) =
(ppBig len true && fGt .f64 (cwF g len len) 0) ∧ (ppBig len true && !(dcF g len len).2) = (ppBig len true && !Prod.snd
(dcF g len len)) ∧ (0 : Int) = 0 ∧ True ∧ pick (ppBig len true) (rlo g 0 len) = pick (ppBig len true) (rlo g
0 len) ∧ pick (ppBig len true) (rlo g 1 len) = pick (ppBig len true) (rlo g 1 len) ∧ pick
(ppBig len true) (rhi g 0 len) = pick (ppBig len true) (rhi g 0 len) ∧ pick (ppBig len true)
(rhi g 1 len) = pick (ppBig len true) (rhi g 1 len) ∧ (True ∧ len = len) ∧ True) ∧ True ∧ (100 = 100 ∧ 2 = 2 ∧ 2 * len ≤
2 * len ∧ ∀ (i : Nat), i < 2 * len → g i = g i) ∧ True ∧ (150 = 150 ∧ 0 = 0 ∧ true = true ∧ (ppBig l0 true && fGt .f64 (cwF g0 l0 l0) 0) =
(ppBig l0 true && fGt .f64 (cwF g0 l0 l0) 0) ∧ (ppBig l0 true && !(dcF g0 l0 l0).2) = (ppBig l0 true && !(dcF g0
 l0 l0).2) ∧ (0 : Int) = 0 ∧ True ∧ pick (ppBig l0 true) (rlo g0 0 l0) = pick (ppBig l0 true) (rlo g0 0 l0) ∧
 pick (ppBig l0 true) (rlo g0 1 l0) = pick (ppBig l0 true) (rlo g0 1 l0) ∧ pick (ppBig l0
 true) (rhi g0 0 l0) = pick (ppBig l0 true) (rhi g0 0 l0) ∧ pick (ppBig l0 true) (rhi g0 1 l0) =
 pick (ppBig l0 true) (rhi g0 1 l0) ∧ (True ∧ l0 = l0) ∧ True) ∧ True ∧ (100 = 100 ∧ 2 = 2 ∧ 2 * l0 ≤ 2 * l0 ∧ ∀ (i : Nat), i < 2 *
 l0 → g0 i = g0 i) ∧ True ∧ List.length (rectS l1 true g1 13 (0 : Int)) = 0 ∧ True ∧ 2 * l1 = 0 ∧ True ∧ List.length (rectS l2 true g2 15 (0 : Int)) = 0 ∧ True ∧ 2 * l2 = 0 ∧ True)) ∧ (∀ (_ : Nat), True → (true = true → (((0 : Int) ≤ 2 ∧ (2 : Int) < 3) ∧ True) ∧ (2 * l2 = 2 * l2 ∧ km = (0 : Int) ∧ l2 ≤ 1000000 ∧ (ppBig l2 true = true →
 ppOk g2 l2)) ∧ (((0 : Int) ≤ 2 ∧ (2 : Int) < 3) ∧ True) ∧ true = true ∧ ∃ (_ : Nat), True ∧ ((True ∧ 3 = 3) ∧ (True ∧ 0 = 0) ∧ (True ∧ 0 = 0) ∧ (3 : Int) = 3 ∧
(3 : Int) = 3 ∧ True) ∧ True ∧ ((True ∧ l0 = l0) ∧ (True ∧ l1 = l1) ∧ (True ∧ l2 = l2) ∧ True) ∧ True ∧ (2 * l0 ≤ 2 * l0 ∧ ∀ (i : Nat), i < 2 * l0 → g0 i = g0 i) ∧ True ∧ (2 * l1 ≤ 2 * l1 ∧ ∀ (i : Nat),
 i < 2 * l1 → g1 i = g1 i) ∧ True ∧ (2 * l2 ≤ 2 * l2 ∧ ∀ (i : Nat), i < 2 * l2 → g2 i = g2 i) ∧ True ∧ (km = km ∧ mm = mm ∧ True) ∧ True ∧ (137 = 137 ∧ 0 = 0 ∧ (True ∧ 0 = 0) ∧ (True ∧ 3 = 3) ∧ True) ∧ True ∧ (106 = 106 ∧ 1 = 1 ∧ (True ∧ 0 = 0) ∧ (True ∧ 0 = 0) ∧ (True ∧ 0 = 0) ∧ True) ∧ True ∧ (150 = 150
∧ 0 = 0 ∧ true = true ∧ (ppBig len true && fGt .f64 (cwF g len len) 0) = (ppBig len true && fGt .f64 (cwF g len len) 0) ∧
(ppBig len true && !(dcF g len len).2) = (ppBig len true && !(dcF g len len).2) ∧ (0 : Int) = 0 ∧ True ∧ pick (ppBig len
 true) (rlo g 0 len) = pick (ppBig len true) (rlo g 0 len) ∧ pick (ppBig len true) (rlo g 1 len) =
 pick (ppBig len true) (rlo g 1 len) ∧ pick (ppBig len true) (rhi g 0 len) = pick (ppBig
 len true) (rhi g 0 len) ∧ pick (ppBig len true) (rhi g 1 len) = pick (ppBig len true) (rhi g 1 len)
∧ (True ∧ len = len) ∧ True) ∧ True ∧ (100 = 100 ∧ 2 = 2 ∧ 2 * len ≤ 2 * len ∧ ∀ (i : Nat), i < 2 * len → g i = g i) ∧ True ∧ (150 = 150 ∧ 0 = 0 ∧ true = true ∧
(ppBig l0 true && fGt .f64 (cwF g0 l0 l0) 0) = (ppBig l0 true && fGt .f64 (cwF g0 l0 l0) 0) ∧ (ppBig l0 true && !Prod.snd
(dcF g0 l0 l0)) = (ppBig l0 true && !(dcF g0 l0 l0).2) ∧ (0 : Int) = 0 ∧ True ∧ pick (ppBig l0 true) (rlo g0 0 l0) =
 pick (ppBig l0 true) (rlo g0 0 l0) ∧ pick (ppBig l0 true) (rlo g0 1 l0) = pick (ppBig l0
 true) (rlo g0 1 l0) ∧ pick (ppBig l0 true) (rhi g0 0 l0) = pick (ppBig l0 true) (rhi g0 0 l0) ∧
 pick (ppBig l0 true) (rhi g0 1 l0) = pick (ppBig l0 true) (rhi g0 1 l0) ∧ (True ∧ l0 = l0) ∧ True) ∧ True ∧ (100 =
100 ∧ 2 = 2 ∧ 2 * l0 ≤ 2 * l0 ∧ ∀ (i : Nat), i < 2 * l0 → g0 i = g0 i) ∧ True ∧ (150 = 150 ∧ 0 = 0 ∧ true = true ∧ (ppBig l1 true && fGt .f64
(cwF g1 l1 l1) 0) = (ppBig l1 true && fGt .f64 (cwF g1 l1 l1) 0) ∧ (ppBig l1 true && !(dcF g1 l1 l1).2) = (ppBig
 l1 true && !(dcF g1 l1 l1).2) ∧ (0 : Int) = 0 ∧ True ∧ pick (ppBig l1 true) (rlo g1 0 l1) = pick (ppBig l1 true)
(rlo g1 0 l1) ∧ pick (ppBig l1 true) (rlo g1 1 l1) = pick (ppBig l1 true) (rlo g1 1 l1) ∧
 pick (ppBig l1 true) (rhi g1 0 l1) = pick (ppBig l1 true) (rhi g1 0 l1) ∧ pick (ppBig l1
 true) (rhi g1 1 l1) = pick (ppBig l1 true) (rhi g1 1 l1) ∧ (True ∧ l1 = l1) ∧ True) ∧ True ∧ (100 = 100 ∧ 2 = 2 ∧ 2 * l1 ≤
2 * l1 ∧ ∀ (i : Nat), i < 2 * l1 → g1 i = g1 i) ∧ True ∧ (150 = 150 ∧ 0 = 0 ∧ true = true ∧ (ppBig l2 true && fGt .f64 (cwF g2 l2 l2) 0) =
(ppBig l2 true && fGt .f64 (cwF g2 l2 l2) 0) ∧ (ppBig l2 true && !(dcF g2 l2 l2).2) = (ppBig l2 true && !(dcF g2
 l2 l2).2) ∧ (0 : Int) = 0 ∧ True ∧ pick (ppBig l2 true) (rlo g2 0 l2) = pick (ppBig l2 true) (rlo g2 0 l2) ∧
 pick (ppBig l2 true) (rlo g2 1 l2) = pick (ppBig l2 true) (rlo g2 1 l2) ∧ pick (ppBig l2
 true) (rhi g2 0 l2) = pick (ppBig l2 true) (rhi g2 0 l2) ∧ pick (ppBig l2 true) (rhi g2 1 l2) =
 pick (ppBig l2 true) (rhi g2 1 l2) ∧ (True ∧ l2 = l2) ∧ True) ∧ True ∧ (100 = 100 ∧ 2 = 2 ∧ 2 * l2 ≤ 2 * l2 ∧ ∀ (i : Nat), i < 2 *
 l2 → g2 i = g2 i) ∧ True) ∧ (true = false → (True ∧ 0 = 0) ∧ True ∧ (137 = 137 ∧ 0 = 0 ∧ (True ∧ 0 = 0) ∧ (True ∧ 3 = 3) ∧ True) ∧ True ∧ (106 = 106 ∧ 1 = 1 ∧ (True ∧ 0 = 0) ∧ (True ∧ 0 = 0) ∧ False ∧ True) ∧ True ∧ (150 = 150 ∧ 0 = 0 ∧ true = true ∧ (ppBig len true && fGt .f64
(cwF g len len) 0) = (ppBig len true && fGt .f64 (cwF g len len) 0) ∧ (ppBig len true && !(dcF g len len).2) =
(ppBig len true && !(dcF g len len).2) ∧ (0 : Int) = 0 ∧ True ∧ pick (ppBig len true) (rlo g 0 len) = pick
(ppBig len true) (rlo g 0 len) ∧ pick (ppBig len true) (rlo g 1 len) = pick (ppBig len true)
(rlo g 1 len) ∧ pick (ppBig len true) (rhi g 0 len) = pick (ppBig len true) (rhi g 0 len) ∧
 pick (ppBig len true) (rhi g 1 len) = pick (ppBig len true) (rhi g 1 len) ∧ (True ∧ len = len) ∧ True) ∧ True ∧ (100 =
100 ∧ 2 = 2 ∧ 2 * len ≤ 2 * len ∧ ∀ (i : Nat), i < 2 * len → g i = g i) ∧ True ∧ (150 = 150 ∧ 0 = 0 ∧ true = true ∧ (ppBig l0 true && fGt .f64
(cwF g0 l0 l0) 0) = (ppBig l0 true && fGt .f64 (cwF g0 l0 l0) 0) ∧ (ppBig l0 true && !(dcF g0 l0 l0).2) = (ppBig
 l0 true && !(dcF g0 l0 l0).2) ∧ (0 : Int) = 0 ∧ True ∧ pick (ppBig l0 true) (rlo g0 0 l0) = pick (ppBig l0 true)
(rlo g0 0 l0) ∧ pick (ppBig l0 true) (rlo g0 1 l0) = pick (ppBig l0 true) (rlo g0 1 l0) ∧
 pick (ppBig l0 true) (rhi g0 0 l0) = pick (ppBig l0 true) (rhi g0 0 l0) ∧ pick (ppBig l0
 true) (rhi g0 1 l0) = pick (ppBig l0 true) (rhi g0 1 l0) ∧ (True ∧ l0 = l0) ∧ True) ∧ True ∧ (100 = 100 ∧ 2 = 2 ∧ 2 * l0 ≤
2 * l0 ∧ ∀ (i : Nat), i < 2 * l0 → g0 i = g0 i) ∧ True ∧ (150 = 150 ∧ 0 = 0 ∧ true = true ∧ (ppBig l1 true && fGt .f64 (cwF g1 l1 l1) 0) =
(ppBig l1 true && fGt .f64 (cwF g1 l1 l1) 0) ∧ (ppBig l1 true && !(dcF g1 l1 l1).2) = (ppBig l1 true && !(dcF g1
 l1 l1).2) ∧ (0 : Int) = 0 ∧ True ∧ pick (ppBig l1 true) (rlo g1 0 l1) = pick (ppBig l1 true) (rlo g1 0 l1) ∧
 pick (ppBig l1 true) (rlo g1 1 l1) = pick (ppBig l1 true) (rlo g1 1 l1) ∧ pick (ppBig l1
 true) (rhi g1 0 l1) = pick (ppBig l1 true) (rhi g1 0 l1) ∧ pick (ppBig l1 true) (rhi g1 1 l1) =
 pick (ppBig l1 true) (rhi g1 1 l1) ∧ (True ∧ l1 = l1) ∧ True) ∧ True ∧ (100 = 100 ∧ 2 = 2 ∧ 2 * l1 ≤ 2 * l1 ∧ ∀ (i : Nat), i < 2 *
 l1 → g1 i = g1 i) ∧ True ∧ List.length (rectS l2 true g2 15 (0 : Int)) = 0 ∧ True ∧ 2 * l2 = 0 ∧ True)) ∧ (∀ (_ : Nat), True → (false = true → False) ∧ (false = false → (True ∧ 0 = 0)
∧ True ∧ (137 = 137 ∧ 0 = 0 ∧ (True ∧ 0 = 0) ∧ (True ∧ 3 = 3) ∧ True) ∧ True ∧ (106 = 106 ∧ 1 = 1 ∧ (True ∧ 0 = 0) ∧ (True ∧ 0 =
0) ∧ (True ∧ 0 = 0) ∧ True) ∧ True ∧ (150 = 150 ∧ 0 = 0 ∧ true = true ∧ (ppBig len true && fGt .f64 (cwF g len len) 0) =
(ppBig len true && fGt .f64 (cwF g len len) 0) ∧ (ppBig len true && !(dcF g len len).2) = (ppBig len true && !Prod.snd
(dcF g len len)) ∧ (0 : Int) = 0 ∧ True ∧ pick (ppBig len true) (rlo g 0 len) = pick (ppBig len true) (rlo g
0 len) ∧ pick (ppBig len true) (rlo g 1 len) = pick (ppBig len true) (rlo g 1 len) ∧ pick
(ppBig len true) (rhi g 0 len) = pick (ppBig len true) (rhi g 0 len) ∧ pick (ppBig len true)
(rhi g 1 len) = pick (ppBig len true) (rhi g 1 len) ∧ (True ∧ len = len) ∧ True) ∧ True ∧ (100 = 100 ∧ 2 = 2 ∧ 2 * len ≤
2 * len ∧ ∀ (i : Nat), i < 2 * len → g i = g i) ∧ True ∧ (150 = 150 ∧ 0 = 0 ∧ true = true ∧ (ppBig l0 true && fGt .f64 (cwF g0 l0 l0) 0) =
(ppBig l0 true && fGt .f64 (cwF g0 l0 l0) 0) ∧ (ppBig l0 true && !(dcF g0 l0 l0).2) = (ppBig l0 true && !(dcF g0
 l0 l0).2) ∧ (0 : Int) = 0 ∧ True ∧ pick (ppBig l0 true) (rlo g0 0 l0) = pick (ppBig l0 true) (rlo g0 0 l0) ∧
 pick (ppBig l0 true) (rlo g0 1 l0) = pick (ppBig l0 true) (rlo g0 1 l0) ∧ pick (ppBig l0
 true) (rhi g0 0 l0) = pick (ppBig l0 true) (rhi g0 0 l0) ∧ pick (ppBig l0 true) (rhi g0 1 l0) =
 pick (ppBig l0 true) (rhi g0 1 l0) ∧ (True ∧ l0 = l0) ∧ True) ∧ True ∧ (100 = 100 ∧ 2 = 2 ∧ 2 * l0 ≤ 2 * l0 ∧ ∀ (i : Nat), i < 2 *
 l0 → g0 i = g0 i) ∧ True ∧ (150 = 150 ∧ 0 = 0 ∧ true = true ∧ (ppBig l1 true && fGt .f64 (cwF g1 l1 l1) 0) = (ppBig l1 true && fGt .f64
(cwF g1 l1 l1) 0) ∧ (ppBig l1 true && !(dcF g1 l1 l1).2) = (ppBig l1 true && !(dcF g1 l1 l1).2) ∧ (0 : Int) = 0 ∧ True ∧
 pick (ppBig l1 true) (rlo g1 0 l1) = pick (ppBig l1 true) (rlo g1 0 l1) ∧ pick (ppBig l1
 true) (rlo g1 1 l1) = pick (ppBig l1 true) (rlo g1 1 l1) ∧ pick (ppBig l1 true) (rhi g1 0 l1) =
 pick (ppBig l1 true) (rhi g1 0 l1) ∧ pick (ppBig l1 true) (rhi g1 1 l1) = pick (ppBig l1
 true) (rhi g1 1 l1) ∧ (True ∧ l1 = l1) ∧ True) ∧ True ∧ (100 = 100 ∧ 2 = 2 ∧ 2 * l1 ≤ 2 * l1 ∧ ∀ (i : Nat), i < 2 * l1 → g1 i = g1 i) ∧ True ∧ (150 = 150 ∧ 0 = 0 ∧ true = true ∧ (ppBig l2 true && fGt .f64 (cwF g2 l2 l2) 0) = (ppBig l2 true && fGt .f64 (cwF g2 l2 l2) 0) ∧
(ppBig l2 true && !(dcF g2 l2 l2).2) = (ppBig l2 true && !(dcF g2 l2 l2).2) ∧ (0 : Int) = 0 ∧ True ∧ pick (ppBig l2
 true) (rlo g2 0 l2) = pick (ppBig l2 true) (rlo g2 0 l2) ∧ pick (ppBig l2 true) (rlo g2 1 l2) =
 pick (ppBig l2 true) (rlo g2 1 l2) ∧ pick (ppBig l2 true) (rhi g2 0 l2) = pick (ppBig l2
 true) (rhi g2 0 l2) ∧ pick (ppBig l2 true) (rhi g2 1 l2) = pick (ppBig l2 true) (rhi g2 1 l2) ∧
(True ∧ l2 = l2) ∧ True) ∧ True ∧ (100 = 100 ∧ 2 = 2 ∧ 2 * l2 ≤ 2 * l2 ∧ ∀ (i : Nat), i < 2 * l2 → g2 i = g2 i) ∧ True)) ∧ True) ∧ (true = false → (True ∧ 0 = 0) ∧ True ∧ (137 = 137 ∧ 0 = 0 ∧ (True ∧ 0 = 0) ∧ 3 = 0 ∧ True) ∧ True ∧ 3 = 0 ∧ True ∧ (150 = 150 ∧ 0 = 0 ∧ true = true ∧ (ppBig len true
&& fGt .f64 (cwF g len len) 0) = (ppBig len true && fGt .f64 (cwF g len len) 0) ∧ (ppBig len true && !(dcF g len len).2) =
(ppBig len true && !(dcF g len len).2) ∧ (0 : Int) = 0 ∧ True ∧ pick (ppBig len true) (rlo g 0 len) = pick
(ppBig len true) (rlo g 0 len) ∧ pick (ppBig len true) (rlo g 1 len) = pick (ppBig len true)
(rlo g 1 len) ∧ pick (ppBig len true) (rhi g 0 len) = pick (ppBig len true) (rhi g 0 len) ∧
 pick (ppBig len true) (rhi g 1 len) = pick (ppBig len true) (rhi g 1 len) ∧ (True ∧ len = len) ∧ True) ∧ True ∧ (100 =
100 ∧ 2 = 2 ∧ 2 * len ≤ 2 * len ∧ ∀ (i : Nat), i < 2 * len → g i = g i) ∧ True ∧ List.length (rectS l0 true g0 11 (0 : Int)) = 0 ∧ True ∧ 2 * l0 = 0 ∧
 True ∧ List.length (rectS l1 true g1 13 (0 : Int)) = 0 ∧ True ∧ 2 * l1 = 0 ∧ True ∧ List.length (rectS l2 true g2 15 (0 : Int)) = 0 ∧ True ∧ 2 * l2 = 0 ∧ True)) := by kernel_rfl
theorem nPo3 : ConOk Tryz.prog 91 (conR nPo3C) := by
 refine con_of_vc gNP Tryz.func91 rfl (by kernel_rfl) fun args => ?_
 unfold nPo3C
 split
 · rename_i n len h o
   intro o0
   show RdM.All _ (match fltsFrom .f64 o0.c with | some (m, g) => _ | none => _) _
   split
   · rename_i m0 g hm0
     intro o1
     show RdM.All _ (match hol3 o1.c with | some (q0, l0, q1, l1, q2, l2) => _ | none => _) _
     split
     · rename_i q0 l0 q1 l1 q2 l2 hm1
       intro o2
       show RdM.All _ (match fltsFrom .f64 o2.c with | some (m, g) => _ | none => _) _
       split
       · rename_i m2 g0 hm2
         intro o3
         show RdM.All _ (match fltsFrom .f64 o3.c with | some (m, g) => _ | none => _) _
         split
         · rename_i m3 g1 hm3
           intro o4
           show RdM.All _ (match fltsFrom .f64 o4.c with | some (m, g) => _ | none => _) _
           split
           · rename_i m4 g2 hm4
             intro o5
             show RdM.All _ (match optOf o5.c with | some (km, mm) => _ | none => _) _
             split
             · rename_i km mm hm5
               intro ho
               replace ho : m0 = 2 * len ∧ m2 = 2 * l0 ∧ m3 = 2 * l1 ∧ m4 = 2 * l2 ∧ km = 0 ∧ (len ≤ 1000000 ∧ (ppBig len true = true → ppOk g len)) ∧ (l0 ≤ 1000000 ∧ (ppBig l0 true = true → ppOk g0 l0)) ∧ (l1 ≤ 1000000 ∧ (ppBig l1 true = true → ppOk g1 l1)) ∧ (l2 ≤ 1000000 ∧ (ppBig l2 true = true → ppOk g2 l2)) := ho
               obtain ⟨hsz0, hsz2, hsz3, hsz4, ho⟩ := ho
               subst hsz0
               subst hsz2
               subst hsz3
               subst hsz4
               refine ⟨?_, _, _, (vc_nPo3 len km mm l0 l1 l2 q0 q1 q2 g g0 g1 g2).mpr ?_⟩
               · refine okFlag_mk rfl ⟨?_, ⟨trivial, (contR_flts hm0).1, ⟨trivial, hol3_spec hm1 (by simp [sgSig, fsts, nth, sameN_self]) (by simp [sgSig, fsts, nth, sameN_self]) (by simp [sgSig, fsts, nth, sameN_self]), ⟨trivial, (contR_flts hm2).1, ⟨trivial, (contR_flts hm3).1, ⟨trivial, (contR_flts hm4).1, ⟨trivial, optOf_spec hm5, trivial⟩⟩⟩⟩⟩⟩⟩
                 simp [eqvRL, eqvR, sgSig, fsts, nth, sameN_self]
               · obtain ⟨hk, ⟨h1, h2⟩, ⟨a0, b0⟩, ⟨a1, b1⟩, a2, b2⟩ := ho
                 simp [hk, h1, a0, a1, a2]
                 exact ⟨h2, b0, b1, b2⟩
             · trivial
           · trivial
         · trivial
       · trivial
     · trivial
   · trivial
 · trivial
noncomputable def GSP3 : Ctx := ⟨⟨tys, []⟩, [(74, conR ptsC), (91, conR nPo3C)]⟩
theorem gSP3 : CtxOk Tryz.prog GSP3 := ⟨⟨tysOk, FlatsOk.nil⟩, GamOk.cons pts (GamOk.cons nPo3 GamOk.nil), by kernel_rfl⟩
noncomputable def shP3C : List SV → RdM
 | [.agg [.int .i64 3, .slcc n len, .slcc h 3], .ptr o 0] => .read n fun o0 => (match intsFrom .i64 o0.c with
   | some (m0, g) => .read h fun o1 => (match hol3 o1.c with
   | some (q0, l0, q1, l1, q2, l2) => .read q0 fun o2 => (match intsFrom .i64 o2.c with
   | some (m2, g0) => .read q1 fun o3 => (match intsFrom .i64 o3.c with
   | some (m3, g1) => .read q2 fun o4 => (match intsFrom .i64 o4.c with
   | some (m4, g2) => .read o fun o5 => (match optOf o5.c with
   | some (km, mm) => .ret ⟨[.agg [.int .i64 3, .slcc 0 len, .slcc 1 3], .ptr 5 0], [(0, ⟨false, 23, .ints .i64 m0 g, 0⟩), (1, ⟨false, 25, .cells [.slcc 2 l0, .slcc 3 l1, .slcc 4 l2], 0⟩), (2, ⟨false, 23, .ints .i64 m2 g0, 0⟩), (3, ⟨false, 23, .ints .i64 m3 g1, 0⟩), (4, ⟨false, 23, .ints .i64 m4 g2, 0⟩), (5, ⟨false, 148, optC km mm, 0⟩)], .ifc 121 (.ptr 6 0), [], [(6, ⟨true, 137, .cells [.ifc 157 (.ptr 8 0), .slcc 7 3], 0⟩), (7, ⟨true, 106, .cells [.ifc 157 (.ptr 10 0), .ifc 157 (.ptr 12 0), .ifc 157 (.ptr 14 0)], 1⟩), (8, ⟨true, 150, .cells (rectS len true (fI g) 9 0), 0⟩), (9, ⟨true, 100, .flts .f64 (2 * len) (fI g), 2⟩), (10, ⟨true, 150, .cells (rectS l0 true (fI g0) 11 0), 0⟩), (11, ⟨true, 100, .flts .f64 (2 * l0) (fI g0), 2⟩), (12, ⟨true, 150, .cells (rectS l1 true (fI g1) 13 0), 0⟩), (13, ⟨true, 100, .flts .f64 (2 * l1) (fI g1), 2⟩), (14, ⟨true, 150, .cells (rectS l2 true (fI g2) 15 0), 0⟩), (15, ⟨true, 100, .flts .f64 (2 * l2) (fI g2), 2⟩)], some (m0 = 2 * len ∧ m2 = 2 * l0 ∧ m3 = 2 * l1 ∧ m4 = 2 * l2 ∧ km = 0 ∧ (len ≤ 1000000 ∧ (ppBig len true = true → ppOk (fI g) len)) ∧ (l0 ≤ 1000000 ∧ (ppBig l0 true = true → ppOk (fI g0) l0)) ∧ (l1 ≤ 1000000 ∧ (ppBig l1 true = true → ppOk (fI g1) l1)) ∧ (l2 ≤ 1000000 ∧ (ppBig l2 true = true → ppOk (fI g2) l2)))⟩
   | none => .fail)
   | none => .fail)
   | none => .fail)
   | none => .fail)
   | none => .fail)
   | none => .fail)
 | _ => .fail
theorem vc_shP3 (len : Nat) (km mm : Int) (l0 l1 l2 : Nat) (_ _ _ : Nm)  (g : Nat → Int) (g0 : Nat → Int) (g1 : Nat → Int) (g2 : Nat → Int) : runA GSP3 6 [(9, .unr [⟨Nat, fun _ => ⟨53, [(1, .ptr 5 0), (2, .ptr 6 0), (5, .nils), (30, .slcc 1 3), (31, .int .i64 3), (32, .int .i64 0)], [(0, ⟨false, 23, .ints .i64 (2 * len) g, 0⟩), (1, ⟨false, 25, .cells [.slcc 2 l0, .slcc 3 l1, .slcc 4 l2], 0⟩), (2, ⟨false, 23, .ints .i64 (2 * l0) g0, 0⟩), (3, ⟨false, 23, .ints .i64 (2 * l1) g1, 0⟩), (4, ⟨false, 23, .ints .i64 (2 * l2) g2, 0⟩), (5, ⟨false, 148, optC km mm, 0⟩), (6, ⟨true, 39, .cells [.int .i64 3, .slcc 0 len, .slcc 1 3], 0⟩)], 7⟩, fun _ => True, fun _ => 0⟩, ⟨Nat, fun _ => ⟨53, [(1, .ptr 5 0), (2, .ptr 6 0), (5, .slcc 7 1), (30, .slcc 1 3), (31, .int .i64 3), (32, .int .i64 1)], [(0, ⟨false, 23, .ints .i64 (2 * len) g, 0⟩), (1, ⟨false, 25, .cells [.slcc 2 l0, .slcc 3 l1, .slcc 4 l2], 0⟩), (2, ⟨false, 23, .ints .i64 (2 * l0) g0, 0⟩), (3, ⟨false, 23, .ints .i64 (2 * l1) g1, 0⟩), (4, ⟨false, 23, .ints .i64 (2 * l2) g2, 0⟩), (5, ⟨false, 148, optC km mm, 0⟩), (6, ⟨true, 39, .cells [.int .i64 3, .slcc 0 len, .slcc 1 3], 0⟩), (7, ⟨true, 118, .cells [.slcc 8 l0], 1⟩), (8, ⟨true, 100, .flts .f64 (2 * l0) (fI g0), 2⟩)], 9⟩, fun _ => True, fun _ => 0⟩, ⟨Nat, fun _ => ⟨53, [(1, .ptr 5 0), (2, .ptr 6 0), (5, .slcc 7 2), (30, .slcc 1 3), (31, .int .i64 3), (32, .int .i64 2)], [(0, ⟨false, 23, .ints .i64 (2 * len) g, 0⟩), (1, ⟨false, 25, .cells [.slcc 2 l0, .slcc 3 l1, .slcc 4 l2], 0⟩), (2, ⟨false, 23, .ints .i64 (2 * l0) g0, 0⟩), (3, ⟨false, 23, .ints .i64 (2 * l1) g1, 0⟩), (4, ⟨false, 23, .ints .i64 (2 * l2) g2, 0⟩), (5, ⟨false, 148, optC km mm, 0⟩), (6, ⟨true, 39, .cells [.int .i64 3, .slcc 0 len, .slcc 1 3], 0⟩), (7, ⟨true, 118, .cells [.slcc 8 l0, .slcc 9 l1], 1⟩), (8, ⟨true, 100, .flts .f64 (2 * l0) (fI g0), 2⟩), (9, ⟨true, 100, .flts .f64 (2 * l1) (fI g1), 2⟩)], 10⟩, fun _ => True, fun _ => 0⟩, ⟨Nat, fun _ => ⟨53, [(1, .ptr 5 0), (2, .ptr 6 0), (5, .slcc 7 3), (30, .slcc 1 3), (31, .int .i64 3), (32, .int .i64 3)], [(0, ⟨false, 23, .ints .i64 (2 * len) g, 0⟩), (1, ⟨false, 25, .cells [.slcc 2 l0, .slcc 3 l1, .slcc 4 l2], 0⟩), (2, ⟨false, 23, .ints .i64 (2 * l0) g0, 0⟩), (3, ⟨false, 23, .ints .i64 (2 * l1) g1, 0⟩), (4, ⟨false, 23, .ints .i64 (2 * l2) g2, 0⟩), (5, ⟨false, 148, optC km mm, 0⟩), (6, ⟨true, 39, .cells [.int .i64 3, .slcc 0 len, .slcc 1 3], 0⟩), (7, ⟨true, 118, .cells [.slcc 8 l0, .slcc 9 l1, .slcc 10 l2], 1⟩), (8, ⟨true, 100, .flts .f64 (2 * l0) (fI g0), 2⟩), (9, ⟨true, 100, .flts .f64 (2 * l1) (fI g1), 2⟩), (10, ⟨true, 100, .flts .f64 (2 * l2) (fI g2), 2⟩)], 11⟩, fun _ => True, fun _ => 0⟩])] [] (codeOf Tryz.f63) (init Tryz.f63.ntmps [.agg [.int .i64 3, .slcc 0 len, .slcc 1 3], .ptr 5 0] [(0, ⟨false, 23, .ints .i64 (2 * len) g, 0⟩), (1, ⟨false, 25, .cells [.slcc 2 l0, .slcc 3 l1, .slcc 4 l2], 0⟩), (2, ⟨false, 23, .ints .i64 (2 * l0) g0, 0⟩), (3, ⟨false, 23, .ints .i64 (2 * l1) g1, 0⟩), (4, ⟨false, 23, .ints .i64 (2 * l2) g2, 0⟩), (5, ⟨false, 148, optC km mm, 0⟩)] 6) (endK GSP3.E.T Tryz.f63.results.toList fun S v => postP 6 ⟨[.agg [.int .i64 3, .slcc 0 len, .slcc 1 3], .ptr 5 0], [(0, ⟨false, 23, .ints .i64 (2 * len) g, 0⟩), (1, ⟨false, 25, .cells [.slcc 2 l0, .slcc 3 l1, .slcc 4 l2], 0⟩), (2, ⟨false, 23, .ints .i64 (2 * l0) g0, 0⟩), (3, ⟨false, 23, .ints .i64 (2 * l1) g1, 0⟩), (4, ⟨false, 23, .ints .i64 (2 * l2) g2, 0⟩), (5, ⟨false, 148, optC km mm, 0⟩)], .ifc 121 (.ptr 6 0), [], [(6, ⟨true, 137, .cells [.ifc 157 (.ptr 8 0), .slcc 7 3], 0⟩), (7, ⟨true, 106, .cells [.ifc 157 (.ptr 10 0), .ifc 157 (.ptr 12 0), .ifc 157 (.ptr 14 0)], 1⟩), (8, ⟨true, 150, .cells (rectS len true (fI g) 9 0), 0⟩), (9, ⟨true, 100, .flts .f64 (2 * len) (fI g), 2⟩), (10, ⟨true, 150, .cells (rectS l0 true (fI g0) 11 0), 0⟩), (11, ⟨true, 100, .flts .f64 (2 * l0) (fI g0), 2⟩), (12, ⟨true, 150, .cells (rectS l1 true (fI g1) 13 0), 0⟩), (13, ⟨true, 100, .flts .f64 (2 * l1) (fI g1), 2⟩), (14, ⟨true, 150, .cells (rectS l2 true (fI g2) 15 0), 0⟩), (15, ⟨true, 100, .flts .f64 (2 * l2) (fI g2), 2⟩)], some (2 * len = 2 * len ∧ 2 * l0 = 2 * l0 ∧ 2 * l1 = 2 * l1 ∧ 2 * l2 = 2 * l2 ∧ km = 0 ∧ (len ≤ 1000000 ∧ (ppBig len true = true → ppOk (fI g) len)) ∧ (l0 ≤ 1000000 ∧ (ppBig l0 true = true → ppOk (fI g0) l0)) ∧ (l1 ≤ 1000000 ∧ (ppBig l1 true = true → ppOk (fI g1) l1)) ∧ (l2 ≤ 1000000 ∧ (ppBig l2 true = true → ppOk (fI g2) l2)))⟩ S v) = (
(false = true → False) ∧ (false = false → (false = true → (2 * len = 2 * len ∧ len ≤ 1000000) ∧ False) ∧ (false = false → (true = true → (∃ (_ : Nat), True ∧ ((True ∧ 0 = 0) ∧ (True ∧ 0 = 0) ∧
 True ∧ (True ∧ 3 = 3) ∧ (3 : Int) = 3 ∧ (0 : Int) = 0 ∧ True) ∧ True ∧ (2 * len ≤ 2 * len ∧ ∀ (i : Nat), i < 2 * len → g i = g i) ∧ True ∧ ((True ∧ l0 = l0) ∧ (True ∧ l1 = l1) ∧ (True ∧ l2 = l2)
∧ True) ∧ True ∧ (2 * l0 ≤ 2 * l0 ∧ ∀ (i : Nat), i < 2 * l0 → g0 i = g0 i) ∧ True ∧ (2 * l1 ≤ 2 * l1 ∧ ∀ (i : Nat), i < 2 * l1 → g1 i = g1 i) ∧ True ∧ (2 * l2 ≤ 2 * l2 ∧ ∀ (i : Nat), i <
2 * l2 → g2 i = g2 i) ∧ True ∧ (km = km ∧ mm = mm ∧ True) ∧ True ∧ (39 = 39 ∧ 0 = 0 ∧ (3 : Int) = 3 ∧ (True ∧ len = len) ∧ (True ∧ 3 = 3) ∧ True) ∧ True) ∧ (∀ (_ : Nat), True → (true =
 true → (((0 : Int) ≤ 0 ∧ (0 : Int) < 3) ∧ True) ∧ (2 * l0 = 2 * l0 ∧ l0 ≤ 1000000) ∧ ∃ (_ : Nat), True ∧ ((True ∧ 0 = 0) ∧ (True ∧ 0 = 0) ∧ (True ∧ 1 = 1) ∧ (True
∧ 3 = 3) ∧ (3 : Int) = 3 ∧ (1 : Int) = 1 ∧ True) ∧ True ∧ (2 * len ≤ 2 * len ∧ ∀ (i : Nat), i < 2 * len → g i = g i) ∧ True ∧ ((True ∧ l0 = l0) ∧ (True ∧ l1 = l1) ∧ (True ∧ l2 = l2) ∧ True) ∧
 True ∧ (2 * l0 ≤ 2 * l0 ∧ ∀ (i : Nat), i < 2 * l0 → g0 i = g0 i) ∧ True ∧ (2 * l1 ≤ 2 * l1 ∧ ∀ (i : Nat), i < 2 * l1 → g1 i = g1 i) ∧ True ∧ (2 * l2 ≤ 2 * l2 ∧ ∀ (i : Nat), i < 2
* l2 → g2 i = g2 i) ∧ True ∧ (km = km ∧ mm = mm ∧ True) ∧ True ∧ (39 = 39 ∧ 0 = 0 ∧ (3 : Int) = 3 ∧ (True ∧ len = len) ∧ (True ∧ 3 = 3) ∧ True) ∧ True ∧ (118 = 118 ∧ 1 =
1 ∧ (True ∧ l0 = l0) ∧ True) ∧ True ∧ (100 = 100 ∧ 2 = 2 ∧ 2 * l0 ≤ 2 * l0 ∧ ∀ (i : Nat), i < 2 * l0 → fI g0 i = fI g0 i) ∧ True) ∧ (true = false →
(2 * len = 2 * len ∧ len ≤ 1000000) ∧ False)) ∧ (∀ (_ : Nat), True → (true = true → (((0 : Int) ≤ 1 ∧ (1 : Int) < 3) ∧ True) ∧ (2 * l1 = 2 * l1 ∧ l1 ≤ 1000000) ∧ (List.length [SV.slcc 8 l0] = 1 ∧ 48 ≤ 140737488355328 ∧ 2 ≤ 9223372036854775807) ∧ ∃ (_ : Nat), True ∧ ((True ∧ 0 = 0) ∧ (True ∧ 0 = 0) ∧ (True ∧ 2 = 2) ∧ (True ∧ 3 = 3) ∧ (3 : Int) = 3 ∧ (2 : Int) = 2 ∧ True) ∧ True ∧ (2 * len ≤ 2 * len ∧ ∀ (i : Nat), i < 2 * len → g i = g i) ∧ True ∧ ((True ∧ l0 = l0) ∧ (True ∧ l1 = l1) ∧ (True ∧ l2 = l2) ∧ True) ∧ True ∧ (2 *
 l0 ≤ 2 * l0 ∧ ∀ (i : Nat), i < 2 * l0 → g0 i = g0 i) ∧ True ∧ (2 * l1 ≤ 2 * l1 ∧ ∀ (i : Nat), i < 2 * l1 → g1 i = g1 i) ∧ True ∧ (2 * l2 ≤ 2 * l2 ∧ ∀ (i : Nat), i < 2 * l2 → g2 i = g2 i)
∧ True ∧ (km = km ∧ mm = mm ∧ True) ∧ True ∧ (39 = 39 ∧ 0 = 0 ∧ (3 : Int) = 3 ∧ (True ∧ len = len) ∧ (True ∧ 3 = 3) ∧ True) ∧ True ∧ (118 = 118 ∧ 1 = 1 ∧ (True ∧
 l0 = l0) ∧ (True ∧ l1 = l1) ∧ True) ∧ True ∧ (100 = 100 ∧ 2 = 2 ∧ 2 * l0 ≤ 2 * l0 ∧ ∀ (i : Nat), i < 2 * l0 → fI g0 i = fI g0 i) ∧ True ∧ (100 = 100 ∧ 2 = 2 ∧ 2 * l1 ≤ 2 * l1 ∧ ∀ (i : Nat), i < 2 * l1 → fI g1 i = fI g1 i) ∧ True) ∧ (true = false → (2 * len = 2 * len ∧ len ≤ 1000000) ∧
 False)) ∧ (∀ (_ : Nat), True → (true = true → (((0 : Int) ≤ 2 ∧ (2 : Int) < 3) ∧ True) ∧ (2 * l2 = 2 * l2 ∧ l2 ≤ 1000000) ∧ (List.length [SV.slcc 8 l0, SV.slcc 9 l1] = 2 ∧ 72 ≤
140737488355328 ∧ 3 ≤ 9223372036854775807) ∧ ∃ (_ : Nat), True ∧ ((True ∧ 0 = 0) ∧ (True ∧ 0 = 0) ∧ (True ∧ 3 = 3) ∧ (True ∧ 3 = 3) ∧ (3 : Int) = 3 ∧ (3 :
 Int) = (3 : Int) ∧ True) ∧ True ∧ (2 * len ≤ 2 * len ∧ ∀ (i : Nat), i < 2 * len → g i = g i) ∧ True ∧ ((True ∧ l0 = l0) ∧ (True ∧ l1 = l1) ∧ (True ∧ l2 = l2) ∧ True) ∧ True ∧ (2 * l0 ≤ 2 * l0 ∧ ∀ (i : Nat), i <
2 * l0 → g0 i = g0 i) ∧ True ∧ (2 * l1 ≤ 2 * l1 ∧ ∀ (i : Nat), i < 2 * l1 → g1 i = g1 i) ∧ True ∧ (2 * l2 ≤ 2 * l2 ∧ ∀ (i : Nat), i < 2 * l2 → g2 i = g2 i) ∧ True ∧ (km = km ∧ mm = mm ∧ True) ∧
 True ∧ (39 = 39 ∧ 0 = 0 ∧ (3 : Int) = 3 ∧ (True ∧ len = len) ∧ (True ∧ 3 = 3) ∧ True) ∧ True ∧ (118 = 118 ∧ 1 = 1 ∧ (True ∧ l0 = l0) ∧ (True ∧ l1 = l1) ∧ (True ∧
 l2 = l2) ∧ True) ∧ True ∧ (100 = 100 ∧ 2 = 2 ∧ 2 * l0 ≤ 2 * l0 ∧ ∀ (i : Nat), i < 2 * l0 → fI g0 i = fI g0 i) ∧ True ∧ (100 = 100 ∧ 2
= 2 ∧ 2 * l1 ≤ 2 * l1 ∧ ∀ (i : Nat), i < 2 * l1 → fI g1 i = fI g1 i) ∧ True ∧ (100 = 100 ∧ 2 = 2 ∧ 2 * l2 ≤ 2 * l2 ∧ ∀ (i : Nat), i <
2 * l2 → fI g2 i = fI g2 i) ∧ True) ∧ (true = false → (2 * len = 2 * len ∧ len ≤ 1000000) ∧ False)) ∧ (∀ (_ : Nat), True → (false = true → (((0 : Int) ≤ 3 ∧ (3 : Int) < (3 :
 Int)) ∧ True) ∧ False) ∧ (false = false → (2 * len = 2 * len ∧ len ≤ 1000000) ∧ (2 * len = 2 * len ∧ 2 * l0 = 2 * l0 ∧ 2 * l1 = 2 * l1 ∧ 2 * l2 = 2 * l2 ∧ km = (0
: Int) ∧ (len ≤ 1000000 ∧ (ppBig len true = true → ppOk (fI g) len)) ∧ (l0 ≤ 1000000 ∧ (ppBig l0 true = true → ppOk (fI g0)
 l0)) ∧ (l1 ≤ 1000000 ∧ (ppBig l1 true = true → ppOk (fI g1) l1)) ∧ l2 ≤ 1000000 ∧ (ppBig l2 true = true → ppOk (fI g2) l2)) ∧
(True ∧ 0 = 0) ∧ True ∧ (137 = 137 ∧ 0 = 0 ∧ (True ∧ 0 = 0) ∧ (True ∧ 3 = 3) ∧ True) ∧ True ∧ (106 = 106 ∧ 1 = 1 ∧ (True ∧ 0 = 0) ∧ (True ∧ 0 = 0) ∧ (True ∧ 0 = 0) ∧ True) ∧ True ∧ (150 = 150 ∧ 0 = 0 ∧ true = true ∧ (ppBig len true && fGt .f64 (cwF
(fI g) len len) 0) = (ppBig len true && fGt .f64 (cwF (fI g) len len) 0) ∧ (ppBig len true && !(dcF
(fI g) len len).2) = (ppBig len true && !(dcF (fI g) len len).2) ∧ (0 : Int) = 0 ∧ True ∧ pick (ppBig len true)
(rlo (fI g) 0 len) = pick (ppBig len true) (rlo (fI g) 0 len) ∧ pick (ppBig len true)
(rlo (fI g) 1 len) = pick (ppBig len true) (rlo (fI g) 1 len) ∧ pick (ppBig len true)
(rhi (fI g) 0 len) = pick (ppBig len true) (rhi (fI g) 0 len) ∧ pick (ppBig len true)
(rhi (fI g) 1 len) = pick (ppBig len true) (rhi (fI g) 1 len) ∧ (True ∧ len = len) ∧ True) ∧ True ∧ (100 = 100
∧ 2 = 2 ∧ 2 * len ≤ 2 * len ∧ ∀ (i : Nat), i < 2 * len → fI g i = fI g i) ∧ True ∧ (150 = 150 ∧ 0 = 0 ∧ true = true ∧ (ppBig
 l0 true && fGt .f64 (cwF (fI g0) l0 l0) 0) = (ppBig l0 true && fGt .f64 (cwF (fI g0) l0 l0) 0) ∧ (ppBig l0 true &&
!(dcF (fI g0) l0 l0).2) = (ppBig l0 true && !(dcF (fI g0) l0 l0).2) ∧ (0 : Int) = 0 ∧ True ∧ pick
(ppBig l0 true) (rlo (fI g0) 0 l0) = pick (ppBig l0 true) (rlo (fI g0) 0 l0) ∧ pick
(ppBig l0 true) (rlo (fI g0) 1 l0) = pick (ppBig l0 true) (rlo (fI g0) 1 l0) ∧ pick
(ppBig l0 true) (rhi (fI g0) 0 l0) = pick (ppBig l0 true) (rhi (fI g0) 0 l0) ∧ pick
(ppBig l0 true) (rhi (fI g0) 1 l0) = pick (ppBig l0 true) (rhi (fI g0) 1 l0) ∧ (True ∧ l0 = l0) ∧ True) ∧
 True ∧ (100 = 100 ∧ 2 = 2 ∧ 2 * l0 ≤ 2 * l0 ∧ ∀ (i : Nat), i < 2 * l0 → fI g0 i = fI g0 i) ∧ True ∧ (150 = 150 ∧ 0 = 0 ∧ true
= true ∧ (ppBig l1 true && fGt .f64 (cwF (fI g1) l1 l1) 0) = (ppBig l1 true && fGt .f64 (cwF (fI g1) l1 l1) 0) ∧
(ppBig l1 true && !(dcF (fI g1) l1 l1).2) = (ppBig l1 true && !(dcF (fI g1) l1 l1).2) ∧ (0 : Int) = 0 ∧ True ∧
 pick (ppBig l1 true) (rlo (fI g1) 0 l1) = pick (ppBig l1 true) (rlo (fI g1) 0 l1) ∧
 pick (ppBig l1 true) (rlo (fI g1) 1 l1) = pick (ppBig l1 true) (rlo (fI g1) 1 l1) ∧
 pick (ppBig l1 true) (rhi (fI g1) 0 l1) = pick (ppBig l1 true) (rhi (fI g1) 0 l1) ∧
 pick (ppBig l1 true) (rhi (fI g1) 1 l1) = pick (ppBig l1 true) (rhi (fI g1) 1 l1) ∧ (True
∧ l1 = l1) ∧ True) ∧ True ∧ (100 = 100 ∧ 2 = 2 ∧ 2 * l1 ≤ 2 * l1 ∧ ∀ (i : Nat), i < 2 * l1 → fI g1 i = fI g1 i) ∧ True ∧ (150 = 150 ∧ 0 = 0 ∧ true = true ∧ (ppBig l2 true && fGt .f64 (cwF (fI g2) l2 l2) 0) = (ppBig l2 true && fGt .f64 (cwF (fI
 g2) l2 l2) 0) ∧ (ppBig l2 true && !(dcF (fI g2) l2 l2).2) = (ppBig l2 true && !(dcF (fI g2) l2 l2).2) ∧ (0 : Int) = (0 :
 Int) ∧ True ∧ pick (ppBig l2 true) (rlo (fI g2) 0 l2) = pick (ppBig l2 true) (rlo (fI g2) 0 l2) ∧ pick (ppBig l2 true) (rlo (fI g2) 1 l2) = pick (ppBig l2 true) (rlo (fI g2) 1
 l2) ∧ pick (ppBig l2 true) (rhi (fI g2) 0 l2) = pick (ppBig l2 true) (rhi (fI g2) 0 l2) ∧
 pick (ppBig l2 true) (rhi (fI g2) 1 l2) = pick (ppBig l2 true) (rhi (fI g2) 1 l2) ∧ (True
∧ l2 = l2) ∧ True) ∧ True ∧ (100 = 100 ∧ 2 = 2 ∧ 2 * l2 ≤ 2 * l2 ∧ ∀ (i : Nat), i < 2 * l2 → fI g2 i = fI g2 i) ∧ True)) ∧ True) ∧ (true = false → False)))) := by kernel_rfl
theorem shP3 : ConOk Tryz.prog 63 (conR shP3C) := by
 refine con_of_vc gSP3 Tryz.func63 rfl (by kernel_rfl) fun args => ?_
 unfold shP3C
 split
 · rename_i n len h o
   intro o0
   show RdM.All _ (match intsFrom .i64 o0.c with | some (m, g) => _ | none => _) _
   split
   · rename_i m0 g hm0
     intro o1
     show RdM.All _ (match hol3 o1.c with | some (q0, l0, q1, l1, q2, l2) => _ | none => _) _
     split
     · rename_i q0 l0 q1 l1 q2 l2 hm1
       intro o2
       show RdM.All _ (match intsFrom .i64 o2.c with | some (m, g) => _ | none => _) _
       split
       · rename_i m2 g0 hm2
         intro o3
         show RdM.All _ (match intsFrom .i64 o3.c with | some (m, g) => _ | none => _) _
         split
         · rename_i m3 g1 hm3
           intro o4
           show RdM.All _ (match intsFrom .i64 o4.c with | some (m, g) => _ | none => _) _
           split
           · rename_i m4 g2 hm4
             intro o5
             show RdM.All _ (match optOf o5.c with | some (km, mm) => _ | none => _) _
             split
             · rename_i km mm hm5
               intro ho
               replace ho : m0 = 2 * len ∧ m2 = 2 * l0 ∧ m3 = 2 * l1 ∧ m4 = 2 * l2 ∧ km = 0 ∧ (len ≤ 1000000 ∧ (ppBig len true = true → ppOk (fI g) len)) ∧ (l0 ≤ 1000000 ∧ (ppBig l0 true = true → ppOk (fI g0) l0)) ∧ (l1 ≤ 1000000 ∧ (ppBig l1 true = true → ppOk (fI g1) l1)) ∧ (l2 ≤ 1000000 ∧ (ppBig l2 true = true → ppOk (fI g2) l2)) := ho
               obtain ⟨hsz0, hsz2, hsz3, hsz4, ho⟩ := ho
               subst hsz0
               subst hsz2
               subst hsz3
               subst hsz4
               refine ⟨?_, _, _, (vc_shP3 len km mm l0 l1 l2 q0 q1 q2 g g0 g1 g2).mpr ?_⟩
               · refine okFlag_mk rfl ⟨?_, ⟨trivial, (contR_ints hm0).1, ⟨trivial, hol3_spec hm1 (by simp [sgSig, fsts, nth, sameN_self]) (by simp [sgSig, fsts, nth, sameN_self]) (by simp [sgSig, fsts, nth, sameN_self]), ⟨trivial, (contR_ints hm2).1, ⟨trivial, (contR_ints hm3).1, ⟨trivial, (contR_ints hm4).1, ⟨trivial, optOf_spec hm5, trivial⟩⟩⟩⟩⟩⟩⟩
                 simp [eqvRL, eqvR, kEq_self, sgSig, fsts, nth, sameN_self]
               · obtain ⟨hk, ⟨h1, h2⟩, ⟨a0, b0⟩, ⟨a1, b1⟩, a2, b2⟩ := ho
                 simp [hk, h1, a0, a1, a2]
                 exact ⟨h2, b0, b1, b2⟩
             · trivial
           · trivial
         · trivial
       · trivial
     · trivial
   · trivial
 · trivial
noncomputable def nPo4C : List SV → RdM
 | [.slcc n len, .slcc h 4, .ptr o 0] => .read n fun o0 => (match fltsFrom .f64 o0.c with
   | some (m0, g) => .read h fun o1 => (match hol4 o1.c with
   | some (q0, l0, q1, l1, q2, l2, q3, l3) => .read q0 fun o2 => (match fltsFrom .f64 o2.c with
   | some (m2, g0) => .read q1 fun o3 => (match fltsFrom .f64 o3.c with
   | some (m3, g1) => .read q2 fun o4 => (match fltsFrom .f64 o4.c with
   | some (m4, g2) => .read q3 fun o5 => (match fltsFrom .f64 o5.c with
   | some (m5, g3) => .read o fun o6 => (match optOf o6.c with
   | some (km, mm) => .ret ⟨[.slcc 0 len, .slcc 1 4, .ptr 6 0], [(0, ⟨false, 100, .flts .f64 m0 g, 0⟩), (1, ⟨false, 118, .cells [.slcc 2 l0, .slcc 3 l1, .slcc 4 l2, .slcc 5 l3], 0⟩), (2, ⟨false, 100, .flts .f64 m2 g0, 0⟩), (3, ⟨false, 100, .flts .f64 m3 g1, 0⟩), (4, ⟨false, 100, .flts .f64 m4 g2, 0⟩), (5, ⟨false, 100, .flts .f64 m5 g3, 0⟩), (6, ⟨false, 148, optC km mm, 0⟩)], .ptr 7 0, [], [(7, ⟨true, 137, .cells [.ifc 157 (.ptr 9 0), .slcc 8 4], 0⟩), (8, ⟨true, 106, .cells [.ifc 157 (.ptr 11 0), .ifc 157 (.ptr 13 0), .ifc 157 (.ptr 15 0), .ifc 157 (.ptr 17 0)], 1⟩), (9, ⟨true, 150, .cells (rectS len true g 10 0), 0⟩), (10, ⟨true, 100, .flts .f64 (2 * len) g, 2⟩), (11, ⟨true, 150, .cells (rectS l0 true g0 12 0), 0⟩), (12, ⟨true, 100, .flts .f64 (2 * l0) g0, 2⟩), (13, ⟨true, 150, .cells (rectS l1 true g1 14 0), 0⟩), (14, ⟨true, 100, .flts .f64 (2 * l1) g1, 2⟩), (15, ⟨true, 150, .cells (rectS l2 true g2 16 0), 0⟩), (16, ⟨true, 100, .flts .f64 (2 * l2) g2, 2⟩), (17, ⟨true, 150, .cells (rectS l3 true g3 18 0), 0⟩), (18, ⟨true, 100, .flts .f64 (2 * l3) g3, 2⟩)], some (m0 = 2 * len ∧ m2 = 2 * l0 ∧ m3 = 2 * l1 ∧ m4 = 2 * l2 ∧ m5 = 2 * l3 ∧ km = 0 ∧ (len ≤ 1000000 ∧ (ppBig len true = true → ppOk g len)) ∧ (l0 ≤ 1000000 ∧ (ppBig l0 true = true → ppOk g0 l0)) ∧ (l1 ≤ 1000000 ∧ (ppBig l1 true = true → ppOk g1 l1)) ∧ (l2 ≤ 1000000 ∧ (ppBig l2 true = true → ppOk g2 l2)) ∧ (l3 ≤ 1000000 ∧ (ppBig l3 true = true → ppOk g3 l3)))⟩
   | none => .fail)
   | none => .fail)
   | none => .fail)
   | none => .fail)
   | none => .fail)
   | none => .fail)
   | none => .fail)
 | _ => .fail
theorem vc_nPo4 (len : Nat) (km mm : Int) (l0 l1 l2 l3 : Nat) (_ _ _ _ : Nm)  (g : Nat → Nat) (g0 : Nat → Nat) (g1 : Nat → Nat) (g2 : Nat → Nat) (g3 : Nat → Nat) : runA GNP 7 [(6, .unr [⟨Nat, fun _ => ⟨44, [(1, .slcc 1 4), (2, .ptr 6 0), (7, .ptr 7 0), (26, .int .i64 4), (27, .int .i64 0)], [(1, ⟨false, 118, .cells [.slcc 2 l0, .slcc 3 l1, .slcc 4 l2, .slcc 5 l3], 0⟩), (2, ⟨false, 100, .flts .f64 (2 * l0) g0, 0⟩), (3, ⟨false, 100, .flts .f64 (2 * l1) g1, 0⟩), (4, ⟨false, 100, .flts .f64 (2 * l2) g2, 0⟩), (5, ⟨false, 100, .flts .f64 (2 * l3) g3, 0⟩), (6, ⟨false, 148, optC km mm, 0⟩), (7, ⟨true, 137, .cells [.ifc 157 (.ptr 9 0), .slcc 8 4], 0⟩), (8, ⟨true, 106, .cells [.nili, .nili, .nili, .nili], 1⟩), (9, ⟨true, 150, .cells (rectS len true g 10 0), 0⟩), (10, ⟨true, 100, .flts .f64 (2 * len) g, 2⟩)], 11⟩, fun _ => True, fun _ => 0⟩, ⟨Nat, fun _ => ⟨44, [(1, .slcc 1 4), (2, .ptr 6 0), (7, .ptr 7 0), (26, .int .i64 4), (27, .int .i64 1)], [(1, ⟨false, 118, .cells [.slcc 2 l0, .slcc 3 l1, .slcc 4 l2, .slcc 5 l3], 0⟩), (2, ⟨false, 100, .flts .f64 (2 * l0) g0, 0⟩), (3, ⟨false, 100, .flts .f64 (2 * l1) g1, 0⟩), (4, ⟨false, 100, .flts .f64 (2 * l2) g2, 0⟩), (5, ⟨false, 100, .flts .f64 (2 * l3) g3, 0⟩), (6, ⟨false, 148, optC km mm, 0⟩), (7, ⟨true, 137, .cells [.ifc 157 (.ptr 9 0), .slcc 8 4], 0⟩), (8, ⟨true, 106, .cells [.ifc 157 (.ptr 11 0), .nili, .nili, .nili], 1⟩), (9, ⟨true, 150, .cells (rectS len true g 10 0), 0⟩), (10, ⟨true, 100, .flts .f64 (2 * len) g, 2⟩), (11, ⟨true, 150, .cells (rectS l0 true g0 12 0), 0⟩), (12, ⟨true, 100, .flts .f64 (2 * l0) g0, 2⟩)], 13⟩, fun _ => True, fun _ => 0⟩, ⟨Nat, fun _ => ⟨44, [(1, .slcc 1 4), (2, .ptr 6 0), (7, .ptr 7 0), (26, .int .i64 4), (27, .int .i64 2)], [(1, ⟨false, 118, .cells [.slcc 2 l0, .slcc 3 l1, .slcc 4 l2, .slcc 5 l3], 0⟩), (2, ⟨false, 100, .flts .f64 (2 * l0) g0, 0⟩), (3, ⟨false, 100, .flts .f64 (2 * l1) g1, 0⟩), (4, ⟨false, 100, .flts .f64 (2 * l2) g2, 0⟩), (5, ⟨false, 100, .flts .f64 (2 * l3) g3, 0⟩), (6, ⟨false, 148, optC km mm, 0⟩), (7, ⟨true, 137, .cells [.ifc 157 (.ptr 9 0), .slcc 8 4], 0⟩), (8, ⟨true, 106, .cells [.ifc 157 (.ptr 11 0), .ifc 157 (.ptr 13 0), .nili, .nili], 1⟩), (9, ⟨true, 150, .cells (rectS len true g 10 0), 0⟩), (10, ⟨true, 100, .flts .f64 (2 * len) g, 2⟩), (11, ⟨true, 150, .cells (rectS l0 true g0 12 0), 0⟩), (12, ⟨true, 100, .flts .f64 (2 * l0) g0, 2⟩), (13, ⟨true, 150, .cells (rectS l1 true g1 14 0), 0⟩), (14, ⟨true, 100, .flts .f64 (2 * l1) g1, 2⟩)], 15⟩, fun _ => True, fun _ => 0⟩, ⟨Nat, fun _ => ⟨44, [(1, .slcc 1 4), (2, .ptr 6 0), (7, .ptr 7 0), (26, .int .i64 4), (27, .int .i64 3)], [(1, ⟨false, 118, .cells [.slcc 2 l0, .slcc 3 l1, .slcc 4 l2, .slcc 5 l3], 0⟩), (2, ⟨false, 100, .flts .f64 (2 * l0) g0, 0⟩), (3, ⟨false, 100, .flts .f64 (2 * l1) g1, 0⟩), (4, ⟨false, 100, .flts .f64 (2 * l2) g2, 0⟩), (5, ⟨false, 100, .flts .f64 (2 * l3) g3, 0⟩), (6, ⟨false, 148, optC km mm, 0⟩), (7, ⟨true, 137, .cells [.ifc 157 (.ptr 9 0), .slcc 8 4], 0⟩), (8, ⟨true, 106, .cells [.ifc 157 (.ptr 11 0), .ifc 157 (.ptr 13 0), .ifc 157 (.ptr 15 0), .nili], 1⟩), (9, ⟨true, 150, .cells (rectS len true g 10 0), 0⟩), (10, ⟨true, 100, .flts .f64 (2 * len) g, 2⟩), (11, ⟨true, 150, .cells (rectS l0 true g0 12 0), 0⟩), (12, ⟨true, 100, .flts .f64 (2 * l0) g0, 2⟩), (13, ⟨true, 150, .cells (rectS l1 true g1 14 0), 0⟩), (14, ⟨true, 100, .flts .f64 (2 * l1) g1, 2⟩), (15, ⟨true, 150, .cells (rectS l2 true g2 16 0), 0⟩), (16, ⟨true, 100, .flts .f64 (2 * l2) g2, 2⟩)], 17⟩, fun _ => True, fun _ => 0⟩, ⟨Nat, fun _ => ⟨44, [(1, .slcc 1 4), (2, .ptr 6 0), (7, .ptr 7 0), (26, .int .i64 4), (27, .int .i64 4)], [(1, ⟨false, 118, .cells [.slcc 2 l0, .slcc 3 l1, .slcc 4 l2, .slcc 5 l3], 0⟩), (2, ⟨false, 100, .flts .f64 (2 * l0) g0, 0⟩), (3, ⟨false, 100, .flts .f64 (2 * l1) g1, 0⟩), (4, ⟨false, 100, .flts .f64 (2 * l2) g2, 0⟩), (5, ⟨false, 100, .flts .f64 (2 * l3) g3, 0⟩), (6, ⟨false, 148, optC km mm, 0⟩), (7, ⟨true, 137, .cells [.ifc 157 (.ptr 9 0), .slcc 8 4], 0⟩), (8, ⟨true, 106, .cells [.ifc 157 (.ptr 11 0), .ifc 157 (.ptr 13 0), .ifc 157 (.ptr 15 0), .ifc 157 (.ptr 17 0)], 1⟩), (9, ⟨true, 150, .cells (rectS len true g 10 0), 0⟩), (10, ⟨true, 100, .flts .f64 (2 * len) g, 2⟩), (11, ⟨true, 150, .cells (rectS l0 true g0 12 0), 0⟩), (12, ⟨true, 100, .flts .f64 (2 * l0) g0, 2⟩), (13, ⟨true, 150, .cells (rectS l1 true g1 14 0), 0⟩), (14, ⟨true, 100, .flts .f64 (2 * l1) g1, 2⟩), (15, ⟨true, 150, .cells (rectS l2 true g2 16 0), 0⟩), (16, ⟨true, 100, .flts .f64 (2 * l2) g2, 2⟩), (17, ⟨true, 150, .cells (rectS l3 true g3 18 0), 0⟩), (18, ⟨true, 100, .flts .f64 (2 * l3) g3, 2⟩)], 19⟩, fun _ => True, fun _ => 0⟩])] [] (codeOf Tryz.f91) (init Tryz.f91.ntmps [.slcc 0 len, .slcc 1 4, .ptr 6 0] [(0, ⟨false, 100, .flts .f64 (2 * len) g, 0⟩), (1, ⟨false, 118, .cells [.slcc 2 l0, .slcc 3 l1, .slcc 4 l2, .slcc 5 l3], 0⟩), (2, ⟨false, 100, .flts .f64 (2 * l0) g0, 0⟩), (3, ⟨false, 100, .flts .f64 (2 * l1) g1, 0⟩), (4, ⟨false, 100, .flts .f64 (2 * l2) g2, 0⟩), (5, ⟨false, 100, .flts .f64 (2 * l3) g3, 0⟩), (6, ⟨false, 148, optC km mm, 0⟩)] 7) (endK GNP.E.T Tryz.f91.results.toList fun S v => postP 7 ⟨[.slcc 0 len, .slcc 1 4, .ptr 6 0], [(0, ⟨false, 100, .flts .f64 (2 * len) g, 0⟩), (1, ⟨false, 118, .cells [.slcc 2 l0, .slcc 3 l1, .slcc 4 l2, .slcc 5 l3], 0⟩), (2, ⟨false, 100, .flts .f64 (2 * l0) g0, 0⟩), (3, ⟨false, 100, .flts .f64 (2 * l1) g1, 0⟩), (4, ⟨false, 100, .flts .f64 (2 * l2) g2, 0⟩), (5, ⟨false, 100, .flts .f64 (2 * l3) g3, 0⟩), (6, ⟨false, 148, optC km mm, 0⟩)], .ptr 7 0, [], [(7, ⟨true, 137, .cells [.ifc 157 (.ptr 9 0), .slcc 8 4], 0⟩), (8, ⟨true, 106, .cells [.ifc 157 (.ptr 11 0), .ifc 157 (.ptr 13 0), .ifc 157 (.ptr 15 0), .ifc 157 (.ptr 17 0)], 1⟩), (9, ⟨true, 150, .cells (rectS len true g 10 0), 0⟩), (10, ⟨true, 100, .flts .f64 (2 * len) g, 2⟩), (11, ⟨true, 150, .cells (rectS l0 true g0 12 0), 0⟩), (12, ⟨true, 100, .flts .f64 (2 * l0) g0, 2⟩), (13, ⟨true, 150, .cells (rectS l1 true g1 14 0), 0⟩), (14, ⟨true, 100, .flts .f64 (2 * l1) g1, 2⟩), (15, ⟨true, 150, .cells (rectS l2 true g2 16 0), 0⟩), (16, ⟨true, 100, .flts .f64 (2 * l2) g2, 2⟩), (17, ⟨true, 150, .cells (rectS l3 true g3 18 0), 0⟩), (18, ⟨true, 100, .flts .f64 (2 * l3) g3, 2⟩)], some (2 * len = 2 * len ∧ 2 * l0 = 2 * l0 ∧ 2 * l1 = 2 * l1 ∧ 2 * l2 = 2 * l2 ∧ 2 * l3 = 2 * l3 ∧ km = 0 ∧ (len ≤ 1000000 ∧ (ppBig len true = true → ppOk g len)) ∧ (l0 ≤ 1000000 ∧ (ppBig l0 true = true → ppOk g0 l0)) ∧ (l1 ≤ 1000000 ∧ (ppBig l1 true = true → ppOk g1 l1)) ∧ (l2 ≤ 1000000 ∧ (ppBig l2 true = true → ppOk g2 l2)) ∧ (l3 ≤ 1000000 ∧ (ppBig l3 true = true → ppOk g3 l3)))⟩ S v) = (
(2 * len = 2 * len ∧ km = (0 : Int) ∧ len ≤ 1000000 ∧ (ppBig len true = true → ppOk g len)) ∧ (true = true → ((4 : Int) = 4 ∧ (0 : Int) ≤ 4 ∧ (4 : Int) ≤ (9223372036854775807
: Int) ∧ (64 : Int) ≤ 140737488355328) ∧ (∃ (_ : Nat), True ∧ ((True ∧ 4 = 4) ∧ (True ∧ 0 = 0) ∧ (True ∧ 0 = 0) ∧ (4 : Int) = 4 ∧ (0 : Int) = 0 ∧ True) ∧ True ∧ ((True ∧ l0 = l0)
∧ (True ∧ l1 = l1) ∧ (True ∧ l2 = l2) ∧ (True ∧ l3 = l3) ∧ True) ∧ True ∧ (2 * l0 ≤ 2 * l0 ∧ ∀ (i : Nat), i < 2 * l0 → g0 i = g0 i) ∧ True ∧ (2 * l1 ≤ 2 * l1 ∧ ∀ (i : Nat), i < 2 * l1 → g1 i = g1 i) ∧
 True ∧ (2 * l2 ≤ 2 * l2 ∧ ∀ (i : Nat), i < 2 * l2 → g2 i = g2 i) ∧ True ∧ (2 * l3 ≤ 2 * l3 ∧ ∀ (i : Nat), i < 2 * l3 → g3 i = g3 i) ∧ True ∧ (km = km ∧ mm = mm ∧ True) ∧ True ∧ (137 = 137 ∧ 0 = 0 ∧ (True ∧ 0 = 0) ∧ (True ∧ 4 = 4) ∧ True) ∧ True ∧ (106 = 106 ∧ 1 = 1 ∧ True ∧ True ∧ True ∧ True ∧ True) ∧ True ∧ (150 = 150 ∧ 0 =
0 ∧ true = true ∧ (ppBig len true && fGt .f64 (cwF g len len) 0) = (ppBig len true && fGt .f64 (cwF g len len) 0) ∧ (ppBig
 len true && !(dcF g len len).2) = (ppBig len true && !(dcF g len len).2) ∧ (0 : Int) = 0 ∧ True ∧ pick (ppBig len true)
(rlo g 0 len) = pick (ppBig len true) (rlo g 0 len) ∧ pick (ppBig len true) (rlo g 1 len) =
 pick (ppBig len true) (rlo g 1 len) ∧ pick (ppBig len true) (rhi g 0 len) = pick (ppBig
 len true) (rhi g 0 len) ∧ pick (ppBig len true) (rhi g 1 len) = pick (ppBig len true) (rhi g 1 len)
∧ (True ∧ len = len) ∧ True) ∧ True ∧ (100 = 100 ∧ 2 = 2 ∧ 2 * len ≤ 2 * len ∧ ∀ (i : Nat), i < 2 * len → g i = g i) ∧ True) ∧ (∀ (_ : Nat), True → (true = true → (((0 : Int) ≤ 0 ∧ (0 :
 Int) < (4 : Int)) ∧ True) ∧ (2 * l0 = 2 * l0 ∧ km = (0 : Int) ∧ l0 ≤ 1000000 ∧ (ppBig l0 true = true → ppOk g0 l0)) ∧ (((0 : Int) ≤ 0 ∧ (0 : Int) < 4) ∧ True) ∧ true = true ∧
∃ (_ : Nat), True ∧ ((True ∧ 4 = 4) ∧ (True ∧ 0 = 0) ∧ (True ∧ 0 = 0) ∧ (4 : Int) = 4 ∧ (1 : Int) = 1 ∧ True) ∧ True ∧ ((True ∧ l0 = l0) ∧ (True ∧ l1 = l1) ∧ (True ∧ l2 = l2) ∧ (True ∧
 l3 = l3) ∧ True) ∧ True ∧ (2 * l0 ≤ 2 * l0 ∧ ∀ (i : Nat), i < 2 * l0 → g0 i = g0 i) ∧ True ∧ (2 * l1 ≤ 2 * l1 ∧ ∀ (i : Nat), i < 2 * l1 → g1 i = g1 i) ∧ True ∧ (2 * l2 ≤ 2 * l2 ∧ ∀ (i :
 Nat), i < 2 * l2 → g2 i = g2 i) ∧ True ∧ (2 * l3 ≤ 2 * l3 ∧ ∀ (i : Nat), i < 2 * l3 → g3 i = g3 i) ∧ True ∧ (km = km ∧ mm = mm ∧ True) ∧ True ∧ (137 = 137 ∧ 0 = 0 ∧ (True ∧ 0 =
0) ∧ (True ∧ 4 = 4) ∧ True) ∧ True ∧ (106 = 106 ∧ 1 = 1 ∧ (True ∧ 0 = 0) ∧ True ∧ True ∧ True ∧ True) ∧ True ∧ (150 = 150 ∧ 0 = 0 ∧ true = true ∧
(ppBig len true && fGt .f64 (cwF g len len) 0) = (ppBig len true && fGt .f64 (cwF g len len) 0) ∧ (ppBig len true && !Prod.snd
(dcF g len len)) = (ppBig len true && !(dcF g len len).2) ∧ (0 : Int) = 0 ∧ True ∧ pick (ppBig len true) (rlo g 0 len)
= pick (ppBig len true) (rlo g 0 len) ∧ pick (ppBig len true) (rlo g 1 len) = pick (ppBig
 len true) (rlo g 1 len) ∧ pick (ppBig len true) (rhi g 0 len) = pick (ppBig len true) (rhi g 0 len)
∧ pick (ppBig len true) (rhi g 1 len) = pick (ppBig len true) (rhi g 1 len) ∧ (True ∧ len = len) ∧ True) ∧ True ∧ (100
= 100 ∧ 2 = 2 ∧ 2 * len ≤ 2 * len ∧ ∀ (i : Nat), i < 2 * len → g i = g i) ∧ True ∧ (150 = 150 ∧ 0 = 0 ∧ true = true ∧ (ppBig l0 true && fGt .f64
(cwF g0 l0 l0) 0) = (ppBig l0 true && fGt .f64 (cwF g0 l0 l0) 0) ∧ (ppBig l0 true && !(dcF g0 l0 l0).2) = (ppBig
 l0 true && !(dcF g0 l0 l0).2) ∧ (0 : Int) = 0 ∧ True ∧ pick (ppBig l0 true) (rlo g0 0 l0) = pick (ppBig l0 true)
(rlo g0 0 l0) ∧ pick (ppBig l0 true) (rlo g0 1 l0) = pick (ppBig l0 true) (rlo g0 1 l0) ∧
 pick (ppBig l0 true) (rhi g0 0 l0) = pick (ppBig l0 true) (rhi g0 0 l0) ∧ pick (ppBig l0
 true) (rhi g0 1 l0) = pick (ppBig l0 true) (rhi g0 1 l0) ∧ (True ∧ l0 = l0) ∧ True) ∧ True ∧ (100 = 100 ∧ 2 = 2 ∧ 2 * l0 ≤
2 * l0 ∧ ∀ (i : Nat), i < 2 * l0 → g0 i = g0 i) ∧ True) ∧ (true = false → (True ∧ 0 = 0) ∧ True ∧ (137 = 137 ∧ 0 = 0 ∧ (True ∧ 0 = 0) ∧ (True ∧ 4 = 4) ∧
 True) ∧ True ∧ (106 = 106 ∧ 1 = 1 ∧ False ∧ False ∧ False ∧ False ∧ True) ∧ True ∧ (150 = 150 ∧ 0 = 0 ∧ true = true ∧ (ppBig len true && fGt .f64
(cwF g len len) 0) = (ppBig len true && fGt .f64 (cwF g len len) 0) ∧ (ppBig len true && !(dcF g len len).2) =
(ppBig len true && !(dcF g len len).2) ∧ (0 : Int) = 0 ∧ True ∧ pick (ppBig len true) (rlo g 0 len) = pick
(ppBig len true) (rlo g 0 len) ∧ pick (ppBig len true) (rlo g 1 len) = pick (ppBig len true)
(rlo g 1 len) ∧ pick (ppBig len true) (rhi g 0 len) = pick (ppBig len true) (rhi g 0 len) ∧
 pick (ppBig len true) (rhi g 1 len) = pick (ppBig len true) (rhi g 1 len) ∧ (True ∧ len = len) ∧ True) ∧ True ∧ (100 =
100 ∧ 2 = 2 ∧ 2 * len ≤ 2 * len ∧ ∀ (i : Nat), i < 2 * len → g i = g i) ∧ True ∧ List.length (rectS l0 true g0 12 (0 : Int)) = 0 ∧ True ∧ 2 * l0 = 0 ∧
 True ∧ List.length (rectS l1 true g1 14 (0 : Int)) = 0 ∧ True ∧ 2 * l1 = 0 ∧ True ∧ List.length (rectS l2 true g2 16 (0 : Int)) = 0 ∧ True ∧ 2 * l2 = 0 ∧ True ∧ List.length (rectS l3 true g3 18 (0 : Int)) = 0 ∧ True ∧ 2 * l3 = 0 ∧ True)) ∧ (∀ (_ : Nat), True → (true = true → (((0 : Int) ≤ 1 ∧ (1 : Int) < 4) ∧ True) ∧ (2 *
 l1 = 2 * l1 ∧ km = (0 : Int) ∧ l1 ≤ 1000000 ∧ (ppBig l1 true = true → ppOk g1 l1)) ∧ (((0 : Int) ≤ 1 ∧ (1 : Int) < 4) ∧ True) ∧ true = true ∧ ∃ (_ : Nat), True ∧ ((True ∧ 4 =
4) ∧ (True ∧ 0 = 0) ∧ (True ∧ 0 = 0) ∧ (4 : Int) = 4 ∧ (2 : Int) = 2 ∧ True) ∧ True ∧ ((True ∧ l0 = l0) ∧ (True ∧ l1 = l1) ∧ (True ∧ l2 = l2) ∧ (True ∧ l3 = l3) ∧ True) ∧ True ∧ (2 * l0
≤ 2 * l0 ∧ ∀ (i : Nat), i < 2 * l0 → g0 i = g0 i) ∧ True ∧ (2 * l1 ≤ 2 * l1 ∧ ∀ (i : Nat), i < 2 * l1 → g1 i = g1 i) ∧ True ∧ (2 * l2 ≤ 2 * l2 ∧ ∀ (i : Nat), i < 2 * l2 → g2 i = g2 i) ∧
 True ∧ (2 * l3 ≤ 2 * l3 ∧ ∀ (i : Nat), i < 2 * l3 → g3 i = g3 i) ∧ True ∧ (km = km ∧ mm = mm ∧ True) ∧ True ∧ (137 = 137 ∧ 0 = 0 ∧ (True ∧ 0 = 0) ∧ (True ∧ 4 = 4)
∧ True) ∧ True ∧ (106 = 106 ∧ 1 = 1 ∧ (True ∧ 0 = 0) ∧ (True ∧ 0 = 0) ∧ True ∧ True ∧ True) ∧ True ∧ (150 = 150 ∧ 0 = 0 ∧ true = true ∧
(ppBig len true && fGt .f64 (cwF g len len) 0) = (ppBig len true && fGt .f64 (cwF g len len) 0) ∧ (ppBig len true && !Prod.snd
(dcF g len len)) = (ppBig len true && !(dcF g len len).2) ∧ (0 : Int) = 0 ∧ True ∧ pick (ppBig len true) (rlo g 0 len)
= pick (ppBig len true) (rlo g 0 len) ∧ pick (ppBig len true) (rlo g 1 len) = pick (ppBig
 len true) (rlo g 1 len) ∧ pick (ppBig len true) (rhi g 0 len) = pick (ppBig len true) (rhi g 0 len)
∧ pick (ppBig len true) (rhi g 1 len) = pick (ppBig len true) (rhi g 1 len) ∧ (True ∧ len = len) ∧ True) ∧ True ∧ (100
= 100 ∧ 2 = 2 ∧ 2 * len ≤ 2 * len ∧ ∀ (i : Nat), i < 2 * len → g i = g i) ∧ True ∧ (150 = 150 ∧ 0 = 0 ∧ true = true ∧ (ppBig l0 true && fGt .f64
(cwF g0 l0 l0) 0) = (ppBig l0 true && fGt .f64 (cwF g0 l0 l0) 0) ∧ (ppBig l0 true && !(dcF g0 l0 l0).2) = (ppBig
 l0 true && !(dcF g0 l0 l0).2) ∧ (0 : Int) = 0 ∧ True ∧ pick (ppBig l0 true) (rlo g0 0 l0) = pick (ppBig l0 true)
(rlo g0 0 l0) ∧ pick (ppBig l0 true) (rlo g0 1 l0) = pick (ppBig l0 true) (rlo g0 1 l0) ∧
 pick (ppBig l0 true) (rhi g0 0 l0) = pick (ppBig l0 true) (rhi g0 0 l0) ∧ pick (ppBig l0
 true) (rhi g0 1 l0) = pick (ppBig l0 true) (rhi g0 1 l0) ∧ (True ∧ l0 = l0) ∧ True) ∧ True ∧ (100 = 100 ∧ 2 = 2 ∧ 2 * l0 ≤
2 * l0 ∧ ∀ (i : Nat), i < 2 * l0 → g0 i = g0 i) ∧ True ∧ (150 = 150 ∧ 0 = 0 ∧ true = true ∧ (ppBig l1 true && fGt .f64 (cwF g1 l1 l1) 0) =
(ppBig l1 true && fGt .f64 (cwF g1 l1 l1) 0) ∧ (ppBig l1 true && !(dcF g1 l1 l1).2) = (ppBig l1 true && !(dcF g1
 l1 l1).2) ∧ (0 : Int) = 0 ∧ True ∧ pick (ppBig l1 true) (rlo g1 0 l1) = pick (ppBig l1 true) (rlo g1 0 l1) ∧
 pick (ppBig l1 true) (rlo g1 1 l1) = pick (ppBig l1 true) (rlo g1 1 l1) ∧ pick (ppBig l1
 true) (rhi g1 0 l1) = pick (ppBig l1 true) (rhi g1 0 l1) ∧ pick (ppBig l1 true) (rhi g1 1 l1) =
 pick (ppBig l1 true) (rhi g1 1 l1) ∧ (True ∧ l1 = l1) ∧ True) ∧ True ∧ (100 = 100 ∧ 2 = 2 ∧ 2 * l1 ≤ 2 * l1 ∧ ∀ (i : Nat), i < 2 *
 l1 → g1 i = g1 i) ∧ True) ∧ (true = false → (True ∧ 0 = 0) ∧ True ∧ (137 = 137 ∧ 0 = 0 ∧ (True ∧ 0 = 0) ∧ (True ∧ 4 = 4) ∧ True) ∧ True ∧ (106 = 106 ∧ 1 = 1 ∧ (True ∧ 0 = 0) ∧ False ∧ False ∧ False ∧ True) ∧ True ∧ (150 = 150 ∧ 0 = 0 ∧ true = true ∧ (ppBig len true && fGt .f64 (cwF g len len) 0) = (ppBig len true && fGt .f64 (cwF g len len) 0) ∧ (ppBig len true && !(dcF g len len).2) = (ppBig len true && !Prod.snd
(dcF g len len)) ∧ (0 : Int) = 0 ∧ True ∧ pick (ppBig len true) (rlo g 0 len) = pick (ppBig len true) (rlo g
0 len) ∧ pick (ppBig len true) (rlo g 1 len) = pick (ppBig len true) (rlo g 1 len) ∧ pick
(ppBig len true) (rhi g 0 len) = pick (ppBig len true) (rhi g 0 len) ∧ pick (ppBig len true)
(rhi g 1 len) = pick (ppBig len true) (rhi g 1 len) ∧ (True ∧ len = len) ∧ True) ∧ True ∧ (100 = 100 ∧ 2 = 2 ∧ 2 * len ≤
2 * len ∧ ∀ (i : Nat), i < 2 * len → g i = g i) ∧ True ∧ (150 = 150 ∧ 0 = 0 ∧ true = true ∧ (ppBig l0 true && fGt .f64 (cwF g0 l0 l0) 0) =
(ppBig l0 true && fGt .f64 (cwF g0 l0 l0) 0) ∧ (ppBig l0 true && !(dcF g0 l0 l0).2) = (ppBig l0 true && !(dcF g0
 l0 l0).2) ∧ (0 : Int) = 0 ∧ True ∧ pick (ppBig l0 true) (rlo g0 0 l0) = pick (ppBig l0 true) (rlo g0 0 l0) ∧
 pick (ppBig l0 true) (rlo g0 1 l0) = pick (ppBig l0 true) (rlo g0 1 l0) ∧ pick (ppBig l0
 true) (rhi g0 0 l0) = pick (ppBig l0 true) (rhi g0 0 l0) ∧ pick (ppBig l0 true) (rhi g0 1 l0) =
 pick (ppBig l0 true) (rhi g0 1 l0) ∧ (True ∧ l0 = l0) ∧ True) ∧ True ∧ (100 = 100 ∧ 2 = 2 ∧ 2 * l0 ≤ 2 * l0 ∧ ∀ (i : Nat), i < 2 *
 l0 → g0 i = g0 i) ∧ True ∧ List.length (rectS l1 true g1 14 (0 : Int)) = 0 ∧ True ∧ 2 * l1 = 0 ∧ True ∧ List.length (rectS l2 true g2 16 (0 : Int)) = 0 ∧ True ∧ 2 * l2 = 0 ∧ True ∧ List.length (rectS l3 true g3 18 (0 : Int)) = 0 ∧ True ∧ 2 * l3 = 0 ∧ True)) ∧ (∀ (_ : Nat), True → (true = true → (((0 : Int) ≤ 2 ∧ (2 : Int) < 4) ∧
 True) ∧ (2 * l2 = 2 * l2 ∧ km = (0 : Int) ∧ l2 ≤ 1000000 ∧ (ppBig l2 true = true → ppOk g2 l2)) ∧ (((0 : Int) ≤ 2 ∧ (2 : Int) < 4) ∧ True) ∧ true = true ∧ ∃ (_ : Nat), True ∧
((True ∧ 4 = 4) ∧ (True ∧ 0 = 0) ∧ (True ∧ 0 = 0) ∧ (4 : Int) = 4 ∧ (3 : Int) = 3 ∧ True) ∧ True ∧ ((True ∧ l0 = l0) ∧ (True ∧ l1 = l1) ∧ (True ∧ l2 = l2) ∧ (True ∧ l3 = l3) ∧ True) ∧
 True ∧ (2 * l0 ≤ 2 * l0 ∧ ∀ (i : Nat), i < 2 * l0 → g0 i = g0 i) ∧ True ∧ (2 * l1 ≤ 2 * l1 ∧ ∀ (i : Nat), i < 2 * l1 → g1 i = g1 i) ∧ True ∧ (2 * l2 ≤ 2 * l2 ∧ ∀ (i : Nat), i < 2
* l2 → g2 i = g2 i) ∧ True ∧ (2 * l3 ≤ 2 * l3 ∧ ∀ (i : Nat), i < 2 * l3 → g3 i = g3 i) ∧ True ∧ (km = km ∧ mm = mm ∧ True) ∧ True ∧ (137 = 137 ∧ 0 = 0 ∧ (True ∧ 0 = 0) ∧ (True ∧
4 = 4) ∧ True) ∧ True ∧ (106 = 106 ∧ 1 = 1 ∧ (True ∧ 0 = 0) ∧ (True ∧ 0 = 0) ∧ (True ∧ 0 = 0) ∧ True ∧ True) ∧ True ∧ (150 = 150 ∧ 0 = 0 ∧ true = true ∧ (ppBig len true && fGt .f64 (cwF g len len) 0) = (ppBig len true && fGt .f64 (cwF g len len) 0) ∧
(ppBig len true && !(dcF g len len).2) = (ppBig len true && !(dcF g len len).2) ∧ (0 : Int) = 0 ∧ True ∧ pick (ppBig len
 true) (rlo g 0 len) = pick (ppBig len true) (rlo g 0 len) ∧ pick (ppBig len true) (rlo g 1 len) =
 pick (ppBig len true) (rlo g 1 len) ∧ pick (ppBig len true) (rhi g 0 len) = pick (ppBig
 len true) (rhi g 0 len) ∧ pick (ppBig len true) (rhi g 1 len) = pick (ppBig len true) (rhi g 1 len)
∧ (True ∧ len = len) ∧ True) ∧ True ∧ (100 = 100 ∧ 2 = 2 ∧ 2 * len ≤ 2 * len ∧ ∀ (i : Nat), i < 2 * len → g i = g i) ∧ True ∧ (150 = 150 ∧ 0 = 0 ∧ true = true ∧
(ppBig l0 true && fGt .f64 (cwF g0 l0 l0) 0) = (ppBig l0 true && fGt .f64 (cwF g0 l0 l0) 0) ∧ (ppBig l0 true && !Prod.snd
(dcF g0 l0 l0)) = (ppBig l0 true && !(dcF g0 l0 l0).2) ∧ (0 : Int) = 0 ∧ True ∧ pick (ppBig l0 true) (rlo g0 0 l0) =
 pick (ppBig l0 true) (rlo g0 0 l0) ∧ pick (ppBig l0 true) (rlo g0 1 l0) = pick (ppBig l0
 true) (rlo g0 1 l0) ∧ pick (ppBig l0 true) (rhi g0 0 l0) = pick (ppBig l0 true) (rhi g0 0 l0) ∧
 pick (ppBig l0 true) (rhi g0 1 l0) = pick (ppBig l0 true) (rhi g0 1 l0) ∧ (True ∧ l0 = l0) ∧ True) ∧ True ∧ (100 =
100 ∧ 2 = 2 ∧ 2 * l0 ≤ 2 * l0 ∧ ∀ (i : Nat), i < 2 * l0 → g0 i = g0 i) ∧ True ∧ (150 = 150 ∧ 0 = 0 ∧ true = true ∧ (ppBig l1 true && fGt .f64
(cwF g1 l1 l1) 0) = (ppBig l1 true && fGt .f64 (cwF g1 l1 l1) 0) ∧ (ppBig l1 true && !(dcF g1 l1 l1).2) = (ppBig
 l1 true && !(dcF g1 l1 l1).2) ∧ (0 : Int) = 0 ∧ True ∧ pick (ppBig l1 true) (rlo g1 0 l1) = pick (ppBig l1 true)
(rlo g1 0 l1) ∧ pick (ppBig l1 true) (rlo g1 1 l1) = pick (ppBig l1 true) (rlo g1 1 l1) ∧
 pick (ppBig l1 true) (rhi g1 0 l1) = pick (ppBig l1 true) (rhi g1 0 l1) ∧ pick (ppBig l1
 true) (rhi g1 1 l1) = pick (ppBig l1 true) (rhi g1 1 l1) ∧ (True ∧ l1 = l1) ∧ True) ∧ True ∧ (100 = 100 ∧ 2 = 2 ∧ 2 * l1 ≤
2 * l1 ∧ ∀ (i : Nat), i < 2 * l1 → g1 i = g1 i) ∧ True ∧ (150 = 150 ∧ 0 = 0 ∧ true = true ∧ (ppBig l2 true && fGt .f64 (cwF g2 l2 l2) 0) =
(ppBig l2 true && fGt .f64 (cwF g2 l2 l2) 0) ∧ (ppBig l2 true && !(dcF g2 l2 l2).2) = (ppBig l2 true && !(dcF g2
 l2 l2).2) ∧ (0 : Int) = 0 ∧ True ∧ pick (ppBig l2 true) (rlo g2 0 l2) = pick (ppBig l2 true) (rlo g2 0 l2) ∧
 pick (ppBig l2 true) (rlo g2 1 l2) = pick (ppBig l2 true) (rlo g2 1 l2) ∧ pick (ppBig l2
 true) (rhi g2 0 l2) = pick (ppBig l2 true) (rhi g2 0 l2) ∧ pick (ppBig l2 true) (rhi g2 1 l2) =
 pick (ppBig l2 true) (rhi g2 1 l2) ∧ (True ∧ l2 = l2) ∧ True) ∧ True ∧ (100 = 100 ∧ 2 = 2 ∧ 2 * l2 ≤ 2 * l2 ∧ ∀ (i : Nat), i < 2 *
 l2 → g2 i = g2 i) ∧ True) ∧ (true = false → (True ∧ 0 = 0) ∧ True ∧ (137 = 137 ∧ 0 = 0 ∧ (True ∧ 0 = 0) ∧ (True ∧ 4 = 4) ∧ True) ∧ True ∧ (106 = 106 ∧ 1 = 1 ∧ (True ∧ 0 = 0) ∧ (True ∧ 0 = 0) ∧ False ∧ False ∧ True) ∧ True ∧ (150 = 150 ∧ 0 = 0 ∧ true = true ∧ (ppBig len true && fGt .f64
(cwF g len len) 0) = (ppBig len true && fGt .f64 (cwF g len len) 0) ∧ (ppBig len true && !(dcF g len len).2) =
(ppBig len true && !(dcF g len len).2) ∧ (0 : Int) = 0 ∧ True ∧ pick (ppBig len true) (rlo g 0 len) = pick
(ppBig len true) (rlo g 0 len) ∧ pick (ppBig len true) (rlo g 1 len) = pick (ppBig len true)
(rlo g 1 len) ∧ pick (ppBig len true) (rhi g 0 len) = pick (ppBig len true) (rhi g 0 len) ∧
 pick (ppBig len true) (rhi g 1 len) = pick (ppBig len true) (rhi g 1 len) ∧ (True ∧ len = len) ∧ True) ∧ True ∧ (100 =
100 ∧ 2 = 2 ∧ 2 * len ≤ 2 * len ∧ ∀ (i : Nat), i < 2 * len → g i = g i) ∧ True ∧ (150 = 150 ∧ 0 = 0 ∧ true = true ∧ (ppBig l0 true && fGt .f64
(cwF g0 l0 l0) 0) = (ppBig l0 true && fGt .f64 (cwF g0 l0 l0) 0) ∧ (ppBig l0 true && !(dcF g0 l0 l0).2) = (ppBig
 l0 true && !(dcF g0 l0 l0).2) ∧ (0 : Int) = 0 ∧ True ∧ pick (ppBig l0 true) (rlo g0 0 l0) = pick (ppBig l0 true)
(rlo g0 0 l0) ∧ pick (ppBig l0 true) (rlo g0 1 l0) = pick (ppBig l0 true) (rlo g0 1 l0) ∧
 pick (ppBig l0 true) (rhi g0 0 l0) = pick (ppBig l0 true) (rhi g0 0 l0) ∧ pick (ppBig l0
 true) (rhi g0 1 l0) = pick (ppBig l0 true) (rhi g0 1 l0) ∧ (True ∧ l0 = l0) ∧ True) ∧ True ∧ (100 = 100 ∧ 2 = 2 ∧ 2 * l0 ≤
2 * l0 ∧ ∀ (i : Nat), i < 2 * l0 → g0 i = g0 i) ∧ True ∧ (150 = 150 ∧ 0 = 0 ∧ true = true ∧ (ppBig l1 true && fGt .f64 (cwF g1 l1 l1) 0) =
(ppBig l1 true && fGt .f64 (cwF g1 l1 l1) 0) ∧ (ppBig l1 true && !(dcF g1 l1 l1).2) = (ppBig l1 true && !(dcF g1
 l1 l1).2) ∧ (0 : Int) = 0 ∧ True ∧ pick (ppBig l1 true) (rlo g1 0 l1) = pick (ppBig l1 true) (rlo g1 0 l1) ∧
 pick (ppBig l1 true) (rlo g1 1 l1) = pick (ppBig l1 true) (rlo g1 1 l1) ∧ pick (ppBig l1
 true) (rhi g1 0 l1) = pick (ppBig l1 true) (rhi g1 0 l1) ∧ pick (ppBig l1 true) (rhi g1 1 l1) =
 pick (ppBig l1 true) (rhi g1 1 l1) ∧ (True ∧ l1 = l1) ∧ True) ∧ True ∧ (100 = 100 ∧ 2 = 2 ∧ 2 * l1 ≤ 2 * l1 ∧ ∀ (i : Nat), i < 2 *
 l1 → g1 i = g1 i) ∧ True ∧ List.length (rectS l2 true g2 16 (0 : Int)) = 0 ∧ True ∧ 2 * l2 = 0 ∧ True ∧ List.length (rectS l3 true g3 18 (0 : Int)) = 0 ∧ True ∧ 2 * l3 = 0 ∧ True)) ∧ (∀ (_ : Nat), True → (true = true → (((0 : Int) ≤ 3 ∧ (3 : Int) < 4) ∧ True) ∧ (2 * l3 = 2 * l3 ∧ km = (0 : Int) ∧ l3 ≤ 1000000 ∧ (ppBig l3 true = true →
 ppOk g3 l3)) ∧ (((0 : Int) ≤ 3 ∧ (3 : Int) < 4) ∧ True) ∧ true = true ∧ ∃ (_ : Nat), True ∧ ((True ∧ 4 = 4) ∧ (True ∧ 0 = 0) ∧ (True ∧ 0 = 0) ∧ (4 : Int) = 4 ∧
(4 : Int) = 4 ∧ True) ∧ True ∧ ((True ∧ l0 = l0) ∧ (True ∧ l1 = l1) ∧ (True ∧ l2 = l2) ∧ (True ∧ l3 = l3) ∧ True) ∧ True ∧ (2 * l0 ≤ 2 * l0 ∧ ∀ (i : Nat), i < 2 * l0 → g0 i = g0 i) ∧ True ∧ (2 * l1 ≤ 2
* l1 ∧ ∀ (i : Nat), i < 2 * l1 → g1 i = g1 i) ∧ True ∧ (2 * l2 ≤ 2 * l2 ∧ ∀ (i : Nat), i < 2 * l2 → g2 i = g2 i) ∧ True ∧ (2 * l3 ≤ 2 * l3 ∧ ∀ (i : Nat), i < 2 * l3 → g3 i = g3 i) ∧ True ∧ (km =
 km ∧ mm = mm ∧ True) ∧ True ∧ (137 = 137 ∧ 0 = 0 ∧ (True ∧ 0 = 0) ∧ (True ∧ 4 = 4) ∧ True) ∧ True ∧ (106 = 106 ∧ 1 = 1 ∧ (True ∧ 0 = 0) ∧
(True ∧ 0 = 0) ∧ (True ∧ 0 = 0) ∧ (True ∧ 0 = 0) ∧ True) ∧ True ∧ (150 = 150 ∧ 0 = 0 ∧ true = true ∧ (ppBig len true && fGt .f64
(cwF g len len) 0) = (ppBig len true && fGt .f64 (cwF g len len) 0) ∧ (ppBig len true && !(dcF g len len).2) =
(ppBig len true && !(dcF g len len).2) ∧ (0 : Int) = 0 ∧ True ∧ pick (ppBig len true) (rlo g 0 len) = pick
(ppBig len true) (rlo g 0 len) ∧ pick (ppBig len true) (rlo g 1 len) = pick (ppBig len true)
(rlo g 1 len) ∧ pick (ppBig len true) (rhi g 0 len) = pick (ppBig len true) (rhi g 0 len) ∧
 pick (ppBig len true) (rhi g 1 len) = pick (ppBig len true) (rhi g 1 len) ∧ (True ∧ len = len) ∧ True) ∧ True ∧ (100 =
100 ∧ 2 = 2 ∧ 2 * len ≤ 2 * len ∧ ∀ (i : Nat), i < 2 * len → g i = g i) ∧ True ∧ (150 = 150 ∧ 0 = 0 ∧ true = true ∧ (ppBig l0 true && fGt .f64
(cwF g0 l0 l0) 0) = (ppBig l0 true && fGt .f64 (cwF g0 l0 l0) 0) ∧ (ppBig l0 true && !(dcF g0 l0 l0).2) = (ppBig
 l0 true && !(dcF g0 l0 l0).2) ∧ (0 : Int) = 0 ∧ True ∧ pick (ppBig l0 true) (rlo g0 0 l0) = pick (ppBig l0 true)
(rlo g0 0 l0) ∧ pick (ppBig l0 true) (rlo g0 1 l0) = pick (ppBig l0 true) (rlo g0 1 l0) ∧
 pick (ppBig l0 true) (rhi g0 0 l0) = pick (ppBig l0 true) (rhi g0 0 l0) ∧ pick (ppBig l0
 true) (rhi g0 1 l0) = pick (ppBig l0 true) (rhi g0 1 l0) ∧ (True ∧ l0 = l0) ∧ True) ∧ True ∧ (100 = 100 ∧ 2 = 2 ∧ 2 * l0 ≤
2 * l0 ∧ ∀ (i : Nat), i < 2 * l0 → g0 i = g0 i) ∧ True ∧ (150 = 150 ∧ 0 = 0 ∧ true = true ∧ (ppBig l1 true && fGt .f64 (cwF g1 l1 l1) 0) =
(ppBig l1 true && fGt .f64 (cwF g1 l1 l1) 0) ∧ (ppBig l1 true && !(dcF g1 l1 l1).2) = (ppBig l1 true && !(dcF g1
 l1 l1).2) ∧ (0 : Int) = 0 ∧ True ∧ pick (ppBig l1 true) (rlo g1 0 l1) = pick (ppBig l1 true) (rlo g1 0 l1) ∧
 pick (ppBig l1 true) (rlo g1 1 l1) = pick (ppBig l1 true) (rlo g1 1 l1) ∧ pick (ppBig l1
 true) (rhi g1 0 l1) = pick (ppBig l1 true) (rhi g1 0 l1) ∧ pick (ppBig l1 true) (rhi g1 1 l1) =
 pick (ppBig l1 true) (rhi g1 1 l1) ∧ (True ∧ l1 = l1) ∧ True) ∧ True ∧ (100 = 100 ∧ 2 = 2 ∧ 2 * l1 ≤ 2 * l1 ∧ ∀ (i : Nat), i < 2 *
 l1 → g1 i = g1 i) ∧ True ∧ (150 = 150 ∧ 0 = 0 ∧ true = true ∧ (ppBig l2 true && fGt .f64 (cwF g2 l2 l2) 0) = (ppBig l2 true && fGt .f64
(cwF g2 l2 l2) 0) ∧ (ppBig l2 true && !(dcF g2 l2 l2).2) = (ppBig l2 true && !(dcF g2 l2 l2).2) ∧ (0 : Int) = 0 ∧ True ∧
 pick (ppBig l2 true) (rlo g2 0 l2) = pick (ppBig l2 true) (rlo g2 0 l2) ∧ pick (ppBig l2
 true) (rlo g2 1 l2) = pick (ppBig l2 true) (rlo g2 1 l2) ∧ pick (ppBig l2 true) (rhi g2 0 l2) =
 pick (ppBig l2 true) (rhi g2 0 l2) ∧ pick (ppBig l2 true) (rhi g2 1 l2) = pick (ppBig l2
 true) (rhi g2 1 l2) ∧ (True ∧ l2 = l2) ∧ True) ∧ True ∧ (100 = 100 ∧ 2 = 2 ∧ 2 * l2 ≤ 2 * l2 ∧ ∀ (i : Nat), i < 2 * l2 → g2 i = g2 i) ∧ True ∧ (150 = 150 ∧ 0 = 0 ∧ true = true ∧ (ppBig l3 true && fGt .f64 (cwF g3 l3 l3) 0) = (ppBig l3 true && fGt .f64 (cwF g3 l3 l3) 0) ∧
(ppBig l3 true && !(dcF g3 l3 l3).2) = (ppBig l3 true && !(dcF g3 l3 l3).2) ∧ (0 : Int) = 0 ∧ True ∧ pick (ppBig l3
 true) (rlo g3 0 l3) = pick (ppBig l3 true) (rlo g3 0 l3) ∧ pick (ppBig l3 true) (rlo g3 1 l3) =
 pick (ppBig l3 true) (rlo g3 1 l3) ∧ pick (ppBig l3 true) (rhi g3 0 l3) = pick (ppBig l3
 true) (rhi g3 0 l3) ∧ pick (ppBig l3 true) (rhi g3 1 l3) = pick (ppBig l3 true) (rhi g3 1 l3) ∧
(True ∧ l3 = l3) ∧ True) ∧ True ∧ (100 = 100 ∧ 2 = 2 ∧ 2 * l3 ≤ 2 * l3 ∧ ∀ (i : Nat), i < 2 * l3 → g3 i = g3 i) ∧ True) ∧ (true = false → (True ∧ 0 = 0) ∧ True ∧ (137 =
137 ∧ 0 = 0 ∧ (True ∧ 0 = 0) ∧ (True ∧ 4 = 4) ∧ True) ∧ True ∧ (106 = 106 ∧ 1 = 1 ∧ (True ∧ 0 = 0) ∧ (True ∧ 0 = 0) ∧ (True ∧ 0 = 0) ∧ False ∧ True) ∧ True ∧ (150 = 150 ∧ 0 = 0 ∧ true = true ∧ (ppBig len true && fGt .f64 (cwF g len len) 0) = (ppBig len true &&
 fGt .f64 (cwF g len len) 0) ∧ (ppBig len true && !(dcF g len len).2) = (ppBig len true && !(dcF g len len).2) ∧ (0 : Int) = (0 :
 Int) ∧ True ∧ pick (ppBig len true) (rlo g 0 len) = pick (ppBig len true) (rlo g 0 len) ∧ pick
(ppBig len true) (rlo g 1 len) = pick (ppBig len true) (rlo g 1 len) ∧ pick (ppBig len true)
(rhi g 0 len) = pick (ppBig len true) (rhi g 0 len) ∧ pick (ppBig len true) (rhi g 1 len) =
 pick (ppBig len true) (rhi g 1 len) ∧ (True ∧ len = len) ∧ True) ∧ True ∧ (100 = 100 ∧ 2 = 2 ∧ 2 * len ≤ 2 * len ∧ ∀ (i : Nat), i < 2 * len → g i = g i) ∧ True ∧ (150 = 150 ∧ 0 = 0 ∧ true = true ∧ (ppBig l0 true && fGt .f64 (cwF g0 l0 l0) 0) = (ppBig l0 true && fGt .f64
(cwF g0 l0 l0) 0) ∧ (ppBig l0 true && !(dcF g0 l0 l0).2) = (ppBig l0 true && !(dcF g0 l0 l0).2) ∧ (0 : Int) = 0 ∧ True ∧
 pick (ppBig l0 true) (rlo g0 0 l0) = pick (ppBig l0 true) (rlo g0 0 l0) ∧ pick (ppBig l0
 true) (rlo g0 1 l0) = pick (ppBig l0 true) (rlo g0 1 l0) ∧ pick (ppBig l0 true) (rhi g0 0 l0) =
 pick (ppBig l0 true) (rhi g0 0 l0) ∧ pick (ppBig l0 true) (rhi g0 1 l0) = pick (ppBig l0
 true) (rhi g0 1 l0) ∧ (True ∧ l0 = l0) ∧ True) ∧ True ∧ (100 = 100 ∧ 2 = 2 ∧ 2 * l0 ≤ 2 * l0 ∧ ∀ (i : Nat), i < 2 * l0 → g0 i = g0 i) ∧ True ∧ (150 = 150 ∧ 0 = 0 ∧ true = true ∧ (ppBig l1 true && fGt .f64 (cwF g1 l1 l1) 0) = (ppBig l1 true && fGt .f64 (cwF g1 l1 l1) 0) ∧
(ppBig l1 true && !(dcF g1 l1 l1).2) = (ppBig l1 true && !(dcF g1 l1 l1).2) ∧ (0 : Int) = 0 ∧ True ∧ pick (ppBig l1
 true) (rlo g1 0 l1) = pick (ppBig l1 true) (rlo g1 0 l1) ∧ pick (ppBig l1 true) (rlo g1 1 l1) =
 pick (ppBig l1 true) (rlo g1 1 l1) ∧ pick (ppBig l1 true) (rhi g1 0 l1) = pick (ppBig l1
 true) (rhi g1 0 l1) ∧ pick (ppBig l1 true) (rhi g1 1 l1) = pick (ppBig l1 true) (rhi g1 1 l1) ∧
(True ∧ l1 = l1) ∧ True) ∧ True ∧ (100 = 100 ∧ 2 = 2 ∧ 2 * l1 ≤ 2 * l1 ∧ ∀ (i : Nat), i < 2 * l1 → g1 i = g1 i) ∧ True ∧ (150 = 150 ∧ 0 = 0 ∧ true = true ∧
(ppBig l2 true && fGt .f64 (cwF g2 l2 l2) 0) = (ppBig l2 true && fGt .f64 (cwF g2 l2 l2) 0) ∧ (ppBig l2 true && !Prod.snd
(dcF g2 l2 l2)) = (ppBig l2 true && !(dcF g2 l2 l2).2) ∧ (0 : Int) = 0 ∧ True ∧ pick (ppBig l2 true) (rlo g2 0 l2) =
 pick (ppBig l2 true) (rlo g2 0 l2) ∧ pick (ppBig l2 true) (rlo g2 1 l2) = pick (ppBig l2
 true) (rlo g2 1 l2) ∧ pick (ppBig l2 true) (rhi g2 0 l2) = pick (ppBig l2 true) (rhi g2 0 l2) ∧
 pick (ppBig l2 true) (rhi g2 1 l2) = pick (ppBig l2 true) (rhi g2 1 l2) ∧ (True ∧ l2 = l2) ∧ True) ∧ True ∧ (100 =
100 ∧ 2 = 2 ∧ 2 * l2 ≤ 2 * l2 ∧ ∀ (i : Nat), i < 2 * l2 → g2 i = g2 i) ∧ True ∧ List.length (rectS l3 true g3 18 (0 : Int)) = 0 ∧ True ∧ 2 * l3 = 0 ∧
 True)) ∧ (∀ (_ : Nat), True → (false = true → False) ∧ (false = false → (True ∧ 0 = 0) ∧ True ∧ (137 = 137 ∧ 0 = 0 ∧ (True ∧ 0 = 0) ∧ (True ∧ 4 = 4) ∧ True) ∧ True ∧
(106 = 106 ∧ 1 = 1 ∧ (True ∧ 0 = 0) ∧ (True ∧ 0 = 0) ∧ (True ∧ 0 = 0) ∧ (True ∧ 0 = 0) ∧ True) ∧ True ∧ (150 = 150 ∧ 0 = 0
∧ true = true ∧ (ppBig len true && fGt .f64 (cwF g len len) 0) = (ppBig len true && fGt .f64 (cwF g len len) 0) ∧ (ppBig len true &&
!(dcF g len len).2) = (ppBig len true && !(dcF g len len).2) ∧ (0 : Int) = 0 ∧ True ∧ pick (ppBig len true) (rlo g 0 len) = pick (ppBig len true) (rlo g 0 len) ∧ pick (ppBig len true) (rlo g 1 len) = pick
(ppBig len true) (rlo g 1 len) ∧ pick (ppBig len true) (rhi g 0 len) = pick (ppBig len true)
(rhi g 0 len) ∧ pick (ppBig len true) (rhi g 1 len) = pick (ppBig len true) (rhi g 1 len) ∧ (True ∧
 len = len) ∧ True) ∧ True ∧ (100 = 100 ∧ 2 = 2 ∧ 2 * len ≤ 2 * len ∧ ∀ (i : Nat), i < 2 * len → g i = g i) ∧ True ∧ (150 = 150 ∧ 0 = 0 ∧ true = true ∧
(ppBig l0 true && fGt .f64 (cwF g0 l0 l0) 0) = (ppBig l0 true && fGt .f64 (cwF g0 l0 l0) 0) ∧ (ppBig l0 true && !Prod.snd
(dcF g0 l0 l0)) = (ppBig l0 true && !(dcF g0 l0 l0).2) ∧ (0 : Int) = 0 ∧ True ∧ pick (ppBig l0 true) (rlo g0 0 l0) =
 pick (ppBig l0 true) (rlo g0 0 l0) ∧ pick (ppBig l0 true) (rlo g0 1 l0) = pick (ppBig l0
 true) (rlo g0 1 l0) ∧ pick (ppBig l0 true) (rhi g0 0 l0) = pick (ppBig l0 true) (rhi g0 0 l0) ∧
 pick (ppBig l0 true) (rhi g0 1 l0) = pick (ppBig l0 true) (rhi g0 1 l0) ∧ (True ∧ l0 = l0) ∧ True) ∧ True ∧ (100 =
100 ∧ 2 = 2 ∧ 2 * l0 ≤ 2 * l0 ∧ ∀ (i : Nat), i < 2 * l0 → g0 i = g0 i) ∧ True ∧ (150 = 150 ∧ 0 = 0 ∧ true = true ∧ (ppBig l1 true && fGt .f64
(cwF g1 l1 l1) 0) = (ppBig l1 true && fGt .f64 (cwF g1 l1 l1) 0) ∧ (ppBig l1 true && !(dcF g1 l1 l1).2) = (ppBig
 l1 true && !(dcF g1 l1 l1).2) ∧ (0 : Int) = 0 ∧ True ∧ pick (ppBig l1 true) (rlo g1 0 l1) = pick (ppBig l1 true)
(rlo g1 0 l1) ∧ pick (ppBig l1 true) (rlo g1 1 l1) = pick (ppBig l1 true) (rlo g1 1 l1) ∧
 pick (ppBig l1 true) (rhi g1 0 l1) = pick (ppBig l1 true) (rhi g1 0 l1) ∧ pick (ppBig l1
 true) (rhi g1 1 l1) = pick (ppBig l1 true) (rhi g1 1 l1) ∧ (True ∧ l1 = l1) ∧ True) ∧ True ∧ (100 = 100 ∧ 2 = 2 ∧ 2 * l1 ≤
2 * l1 ∧ ∀ (i : Nat), i < 2 * l1 → g1 i = g1 i) ∧ True ∧ (150 = 150 ∧ 0 = 0 ∧ true = true ∧ (ppBig l2 true && fGt .f64 (cwF g2 l2 l2) 0) =
(ppBig l2 true && fGt .f64 (cwF g2 l2 l2) 0) ∧ (ppBig l2 true && !(dcF g2 l2 l2).2) = (ppBig l2 true && !(dcF g2
 l2 l2).2) ∧ (0 : Int) = 0 ∧ True ∧ pick (ppBig l2 true) (rlo g2 0 l2) = pick (ppBig l2 true) (rlo g2 0 l2) ∧
 pick (ppBig l2 true) (rlo g2 1 l2) = pick (ppBig l2 true) (rlo g2 1 l2) ∧ pick (ppBig l2
 true) (rhi g2 0 l2) = pick (ppBig l2 true) (rhi g2 0 l2) ∧ pick (ppBig l2 true) (rhi g2 1 l2) =
 pick (ppBig l2 true) (rhi g2 1 l2) ∧ (True ∧ l2 = l2) ∧ True) ∧ True ∧ (100 = 100 ∧ 2 = 2 ∧ 2 * l2 ≤ 2 * l2 ∧ ∀ (i : Nat), i < 2 *
 l2 → g2 i = g2 i) ∧ True ∧ (150 = 150 ∧ 0 = 0 ∧ true = true ∧ (ppBig l3 true && fGt .f64 (cwF g3 l3 l3) 0) = (ppBig l3 true && fGt .f64
(cwF g3 l3 l3) 0) ∧ (ppBig l3 true && !(dcF g3 l3 l3).2) = (ppBig l3 true && !(dcF g3 l3 l3).2) ∧ (0 : Int) = 0 ∧ True ∧
 pick (ppBig l3 true) (rlo g3 0 l3) = pick (ppBig l3 true) (rlo g3 0 l3) ∧ pick (ppBig l3
 true) (rlo g3 1 l3) = pick (ppBig l3 true) (rlo g3 1 l3) ∧ pick (ppBig l3 true) (rhi g3 0 l3) =
 pick (ppBig l3 true) (rhi g3 0 l3) ∧ pick (ppBig l3 true) (rhi g3 1 l3) = pick (ppBig l3
 true) (rhi g3 1 l3) ∧ (True ∧ l3 = l3) ∧ True) ∧ True ∧ (100 = 100 ∧ 2 = 2 ∧ 2 * l3 ≤ 2 * l3 ∧ ∀ (i : Nat), i < 2 * l3 → g3 i = g3 i) ∧ True)) ∧ True) ∧ (true = false →
(True ∧ 0 = 0) ∧ True ∧ (137 = 137 ∧ 0 = 0 ∧ (True ∧ 0 = 0) ∧ 4 = 0 ∧ True) ∧ True ∧ 4 = 0 ∧ True ∧ (150 = 150 ∧ 0 = 0 ∧
 true = true ∧ (ppBig len true && fGt .f64 (cwF g len len) 0) = (ppBig len true && fGt .f64 (cwF g len len) 0) ∧ (ppBig len true &&
!(dcF g len len).2) = (ppBig len true && !(dcF g len len).2) ∧ (0 : Int) = 0 ∧ True ∧ pick (ppBig len true) (rlo g 0 len) = pick (ppBig len true) (rlo g 0 len) ∧ pick (ppBig len true) (rlo g 1 len) = pick
(ppBig len true) (rlo g 1 len) ∧ pick (ppBig len true) (rhi g 0 len) = pick (ppBig len true)
(rhi g 0 len) ∧ pick (ppBig len true) (rhi g 1 len) = pick (ppBig len true) (rhi g 1 len) ∧ (True ∧
 len = len) ∧ True) ∧ True ∧ (100 = 100 ∧ 2 = 2 ∧ 2 * len ≤ 2 * len ∧ ∀ (i : Nat), i < 2 * len → g i = g i) ∧ True ∧ List.length (rectS l0 true g0 12 (0 : Int)) = 0 ∧ True ∧ 2 * l0 = 0 ∧ True ∧ List.length (rectS l1 true g1 14 (0 : Int)) = 0 ∧ True ∧ 2 * l1 = 0 ∧ True ∧ List.length (rectS l2 true g2 16 (0 : Int)) =
0 ∧ True ∧ 2 * l2 = 0 ∧ True ∧ List.length (rectS l3 true g3 18 (0 : Int)) = 0 ∧ True ∧ 2 * l3 = 0 ∧ True)) := by kernel_rfl
theorem nPo4 : ConOk Tryz.prog 91 (conR nPo4C) := by
 refine con_of_vc gNP Tryz.func91 rfl (by kernel_rfl) fun args => ?_
 unfold nPo4C
 split
 · rename_i n len h o
   intro o0
   show RdM.All _ (match fltsFrom .f64 o0.c with | some (m, g) => _ | none => _) _
   split
   · rename_i m0 g hm0
     intro o1
     show RdM.All _ (match hol4 o1.c with | some (q0, l0, q1, l1, q2, l2, q3, l3) => _ | none => _) _
     split
     · rename_i q0 l0 q1 l1 q2 l2 q3 l3 hm1
       intro o2
       show RdM.All _ (match fltsFrom .f64 o2.c with | some (m, g) => _ | none => _) _
       split
       · rename_i m2 g0 hm2
         intro o3
         show RdM.All _ (match fltsFrom .f64 o3.c with | some (m, g) => _ | none => _) _
         split
         · rename_i m3 g1 hm3
           intro o4
           show RdM.All _ (match fltsFrom .f64 o4.c with | some (m, g) => _ | none => _) _
           split
           · rename_i m4 g2 hm4
             intro o5
             show RdM.All _ (match fltsFrom .f64 o5.c with | some (m, g) => _ | none => _) _
             split
             · rename_i m5 g3 hm5
               intro o6
               show RdM.All _ (match optOf o6.c with | some (km, mm) => _ | none => _) _
               split
               · rename_i km mm hm6
                 intro ho
                 replace ho : m0 = 2 * len ∧ m2 = 2 * l0 ∧ m3 = 2 * l1 ∧ m4 = 2 * l2 ∧ m5 = 2 * l3 ∧ km = 0 ∧ (len ≤ 1000000 ∧ (ppBig len true = true → ppOk g len)) ∧ (l0 ≤ 1000000 ∧ (ppBig l0 true = true → ppOk g0 l0)) ∧ (l1 ≤ 1000000 ∧ (ppBig l1 true = true → ppOk g1 l1)) ∧ (l2 ≤ 1000000 ∧ (ppBig l2 true = true → ppOk g2 l2)) ∧ (l3 ≤ 1000000 ∧ (ppBig l3 true = true → ppOk g3 l3)) := ho
                 obtain ⟨hsz0, hsz2, hsz3, hsz4, hsz5, ho⟩ := ho
                 subst hsz0
                 subst hsz2
                 subst hsz3
                 subst hsz4
                 subst hsz5
                 refine ⟨?_, _, _, (vc_nPo4 len km mm l0 l1 l2 l3 q0 q1 q2 q3 g g0 g1 g2 g3).mpr ?_⟩
                 · refine okFlag_mk rfl ⟨?_, ⟨trivial, (contR_flts hm0).1, ⟨trivial, hol4_spec hm1 (by simp [sgSig, fsts, nth, sameN_self]) (by simp [sgSig, fsts, nth, sameN_self]) (by simp [sgSig, fsts, nth, sameN_self]) (by simp [sgSig, fsts, nth, sameN_self]), ⟨trivial, (contR_flts hm2).1, ⟨trivial, (contR_flts hm3).1, ⟨trivial, (contR_flts hm4).1, ⟨trivial, (contR_flts hm5).1, ⟨trivial, optOf_spec hm6, trivial⟩⟩⟩⟩⟩⟩⟩⟩
                   simp [eqvRL, eqvR, sgSig, fsts, nth, sameN_self]
                 · obtain ⟨hk, ⟨h1, h2⟩, ⟨a0, b0⟩, ⟨a1, b1⟩, ⟨a2, b2⟩, a3, b3⟩ := ho
                   simp [hk, h1, a0, a1, a2, a3]
                   exact ⟨h2, b0, b1, b2, b3⟩
               · trivial
             · trivial
           · trivial
         · trivial
       · trivial
     · trivial
   · trivial
 · trivial
noncomputable def GSP4 : Ctx := ⟨⟨tys, []⟩, [(74, conR ptsC), (91, conR nPo4C)]⟩
theorem gSP4 : CtxOk Tryz.prog GSP4 := ⟨⟨tysOk, FlatsOk.nil⟩, GamOk.cons pts (GamOk.cons nPo4 GamOk.nil), by kernel_rfl⟩
noncomputable def shP4C : List SV → RdM
 | [.agg [.int .i64 3, .slcc n len, .slcc h 4], .ptr o 0] => .read n fun o0 => (match intsFrom .i64 o0.c with
   | some (m0, g) => .read h fun o1 => (match hol4 o1.c with
   | some (q0, l0, q1, l1, q2, l2, q3, l3) => .read q0 fun o2 => (match intsFrom .i64 o2.c with
   | some (m2, g0) => .read q1 fun o3 => (match intsFrom .i64 o3.c with
   | some (m3, g1) => .read q2 fun o4 => (match intsFrom .i64 o4.c with
   | some (m4, g2) => .read q3 fun o5 => (match intsFrom .i64 o5.c with
   | some (m5, g3) => .read o fun o6 => (match optOf o6.c with
   | some (km, mm) => .ret ⟨[.agg [.int .i64 3, .slcc 0 len, .slcc 1 4], .ptr 6 0], [(0, ⟨false, 23, .ints .i64 m0 g, 0⟩), (1, ⟨false, 25, .cells [.slcc 2 l0, .slcc 3 l1, .slcc 4 l2, .slcc 5 l3], 0⟩), (2, ⟨false, 23, .ints .i64 m2 g0, 0⟩), (3, ⟨false, 23, .ints .i64 m3 g1, 0⟩), (4, ⟨false, 23, .ints .i64 m4 g2, 0⟩), (5, ⟨false, 23, .ints .i64 m5 g3, 0⟩), (6, ⟨false, 148, optC km mm, 0⟩)], .ifc 121 (.ptr 7 0), [], [(7, ⟨true, 137, .cells [.ifc 157 (.ptr 9 0), .slcc 8 4], 0⟩), (8, ⟨true, 106, .cells [.ifc 157 (.ptr 11 0), .ifc 157 (.ptr 13 0), .ifc 157 (.ptr 15 0), .ifc 157 (.ptr 17 0)], 1⟩), (9, ⟨true, 150, .cells (rectS len true (fI g) 10 0), 0⟩), (10, ⟨true, 100, .flts .f64 (2 * len) (fI g), 2⟩), (11, ⟨true, 150, .cells (rectS l0 true (fI g0) 12 0), 0⟩), (12, ⟨true, 100, .flts .f64 (2 * l0) (fI g0), 2⟩), (13, ⟨true, 150, .cells (rectS l1 true (fI g1) 14 0), 0⟩), (14, ⟨true, 100, .flts .f64 (2 * l1) (fI g1), 2⟩), (15, ⟨true, 150, .cells (rectS l2 true (fI g2) 16 0), 0⟩), (16, ⟨true, 100, .flts .f64 (2 * l2) (fI g2), 2⟩), (17, ⟨true, 150, .cells (rectS l3 true (fI g3) 18 0), 0⟩), (18, ⟨true, 100, .flts .f64 (2 * l3) (fI g3), 2⟩)], some (m0 = 2 * len ∧ m2 = 2 * l0 ∧ m3 = 2 * l1 ∧ m4 = 2 * l2 ∧ m5 = 2 * l3 ∧ km = 0 ∧ (len ≤ 1000000 ∧ (ppBig len true = true → ppOk (fI g) len)) ∧ (l0 ≤ 1000000 ∧ (ppBig l0 true = true → ppOk (fI g0) l0)) ∧ (l1 ≤ 1000000 ∧ (ppBig l1 true = true → ppOk (fI g1) l1)) ∧ (l2 ≤ 1000000 ∧ (ppBig l2 true = true → ppOk (fI g2) l2)) ∧ (l3 ≤ 1000000 ∧ (ppBig l3 true = true → ppOk (fI g3) l3)))⟩
   | none => .fail)
   | none => .fail)
   | none => .fail)
   | none => .fail)
   | none => .fail)
   | none => .fail)
   | none => .fail)
 | _ => .fail
theorem vc_shP4 (len : Nat) (km mm : Int) (l0 l1 l2 l3 : Nat) (_ _ _ _ : Nm)  (g : Nat → Int) (g0 : Nat → Int) (g1 : Nat → Int) (g2 : Nat → Int) (g3 : Nat → Int) : runA GSP4 7 [(9, .unr [⟨Nat, fun _ => ⟨53, [(1, .ptr 6 0), (2, .ptr 7 0), (5, .nils), (30, .slcc 1 4), (31, .int .i64 4), (32, .int .i64 0)], [(0, ⟨false, 23, .ints .i64 (2 * len) g, 0⟩), (1, ⟨false, 25, .cells [.slcc 2 l0, .slcc 3 l1, .slcc 4 l2, .slcc 5 l3], 0⟩), (2, ⟨false, 23, .ints .i64 (2 * l0) g0, 0⟩), (3, ⟨false, 23, .ints .i64 (2 * l1) g1, 0⟩), (4, ⟨false, 23, .ints .i64 (2 * l2) g2, 0⟩), (5, ⟨false, 23, .ints .i64 (2 * l3) g3, 0⟩), (6, ⟨false, 148, optC km mm, 0⟩), (7, ⟨true, 39, .cells [.int .i64 3, .slcc 0 len, .slcc 1 4], 0⟩)], 8⟩, fun _ => True, fun _ => 0⟩, ⟨Nat, fun _ => ⟨53, [(1, .ptr 6 0), (2, .ptr 7 0), (5, .slcc 8 1), (30, .slcc 1 4), (31, .int .i64 4), (32, .int .i64 1)], [(0, ⟨false, 23, .ints .i64 (2 * len) g, 0⟩), (1, ⟨false, 25, .cells [.slcc 2 l0, .slcc 3 l1, .slcc 4 l2, .slcc 5 l3], 0⟩), (2, ⟨false, 23, .ints .i64 (2 * l0) g0, 0⟩), (3, ⟨false, 23, .ints .i64 (2 * l1) g1, 0⟩), (4, ⟨false, 23, .ints .i64 (2 * l2) g2, 0⟩), (5, ⟨false, 23, .ints .i64 (2 * l3) g3, 0⟩), (6, ⟨false, 148, optC km mm, 0⟩), (7, ⟨true, 39, .cells [.int .i64 3, .slcc 0 len, .slcc 1 4], 0⟩), (8, ⟨true, 118, .cells [.slcc 9 l0], 1⟩), (9, ⟨true, 100, .flts .f64 (2 * l0) (fI g0), 2⟩)], 10⟩, fun _ => True, fun _ => 0⟩, ⟨Nat, fun _ => ⟨53, [(1, .ptr 6 0), (2, .ptr 7 0), (5, .slcc 8 2), (30, .slcc 1 4), (31, .int .i64 4), (32, .int .i64 2)], [(0, ⟨false, 23, .ints .i64 (2 * len) g, 0⟩), (1, ⟨false, 25, .cells [.slcc 2 l0, .slcc 3 l1, .slcc 4 l2, .slcc 5 l3], 0⟩), (2, ⟨false, 23, .ints .i64 (2 * l0) g0, 0⟩), (3, ⟨false, 23, .ints .i64 (2 * l1) g1, 0⟩), (4, ⟨false, 23, .ints .i64 (2 * l2) g2, 0⟩), (5, ⟨false, 23, .ints .i64 (2 * l3) g3, 0⟩), (6, ⟨false, 148, optC km mm, 0⟩), (7, ⟨true, 39, .cells [.int .i64 3, .slcc 0 len, .slcc 1 4], 0⟩), (8, ⟨true, 118, .cells [.slcc 9 l0, .slcc 10 l1], 1⟩), (9, ⟨true, 100, .flts .f64 (2 * l0) (fI g0), 2⟩), (10, ⟨true, 100, .flts .f64 (2 * l1) (fI g1), 2⟩)], 11⟩, fun _ => True, fun _ => 0⟩, ⟨Nat, fun _ => ⟨53, [(1, .ptr 6 0), (2, .ptr 7 0), (5, .slcc 8 3), (30, .slcc 1 4), (31, .int .i64 4), (32, .int .i64 3)], [(0, ⟨false, 23, .ints .i64 (2 * len) g, 0⟩), (1, ⟨false, 25, .cells [.slcc 2 l0, .slcc 3 l1, .slcc 4 l2, .slcc 5 l3], 0⟩), (2, ⟨false, 23, .ints .i64 (2 * l0) g0, 0⟩), (3, ⟨false, 23, .ints .i64 (2 * l1) g1, 0⟩), (4, ⟨false, 23, .ints .i64 (2 * l2) g2, 0⟩), (5, ⟨false, 23, .ints .i64 (2 * l3) g3, 0⟩), (6, ⟨false, 148, optC km mm, 0⟩), (7, ⟨true, 39, .cells [.int .i64 3, .slcc 0 len, .slcc 1 4], 0⟩), (8, ⟨true, 118, .cells [.slcc 9 l0, .slcc 10 l1, .slcc 11 l2], 1⟩), (9, ⟨true, 100, .flts .f64 (2 * l0) (fI g0), 2⟩), (10, ⟨true, 100, .flts .f64 (2 * l1) (fI g1), 2⟩), (11, ⟨true, 100, .flts .f64 (2 * l2) (fI g2), 2⟩)], 12⟩, fun _ => True, fun _ => 0⟩, ⟨Nat, fun _ => ⟨53, [(1, .ptr 6 0), (2, .ptr 7 0), (5, .slcc 8 4), (30, .slcc 1 4), (31, .int .i64 4), (32, .int .i64 4)], [(0, ⟨false, 23, .ints .i64 (2 * len) g, 0⟩), (1, ⟨false, 25, .cells [.slcc 2 l0, .slcc 3 l1, .slcc 4 l2, .slcc 5 l3], 0⟩), (2, ⟨false, 23, .ints .i64 (2 * l0) g0, 0⟩), (3, ⟨false, 23, .ints .i64 (2 * l1) g1, 0⟩), (4, ⟨false, 23, .ints .i64 (2 * l2) g2, 0⟩), (5, ⟨false, 23, .ints .i64 (2 * l3) g3, 0⟩), (6, ⟨false, 148, optC km mm, 0⟩), (7, ⟨true, 39, .cells [.int .i64 3, .slcc 0 len, .slcc 1 4], 0⟩), (8, ⟨true, 118, .cells [.slcc 9 l0, .slcc 10 l1, .slcc 11 l2, .slcc 12 l3], 1⟩), (9, ⟨true, 100, .flts .f64 (2 * l0) (fI g0), 2⟩), (10, ⟨true, 100, .flts .f64 (2 * l1) (fI g1), 2⟩), (11, ⟨true, 100, .flts .f64 (2 * l2) (fI g2), 2⟩), (12, ⟨true, 100, .flts .f64 (2 * l3) (fI g3), 2⟩)], 13⟩, fun _ => True, fun _ => 0⟩])] [] (codeOf Tryz.f63) (init Tryz.f63.ntmps [.agg [.int .i64 3, .slcc 0 len, .slcc 1 4], .ptr 6 0] [(0, ⟨false, 23, .ints .i64 (2 * len) g, 0⟩), (1, ⟨false, 25, .cells [.slcc 2 l0, .slcc 3 l1, .slcc 4 l2, .slcc 5 l3], 0⟩), (2, ⟨false, 23, .ints .i64 (2 * l0) g0, 0⟩), (3, ⟨false, 23, .ints .i64 (2 * l1) g1, 0⟩), (4, ⟨false, 23, .ints .i64 (2 * l2) g2, 0⟩), (5, ⟨false, 23, .ints .i64 (2 * l3) g3, 0⟩), (6, ⟨false, 148, optC km mm, 0⟩)] 7) (endK GSP4.E.T Tryz.f63.results.toList fun S v => postP 7 ⟨[.agg [.int .i64 3, .slcc 0 len, .slcc 1 4], .ptr 6 0], [(0, ⟨false, 23, .ints .i64 (2 * len) g, 0⟩), (1, ⟨false, 25, .cells [.slcc 2 l0, .slcc 3 l1, .slcc 4 l2, .slcc 5 l3], 0⟩), (2, ⟨false, 23, .ints .i64 (2 * l0) g0, 0⟩), (3, ⟨false, 23, .ints .i64 (2 * l1) g1, 0⟩), (4, ⟨false, 23, .ints .i64 (2 * l2) g2, 0⟩), (5, ⟨false, 23, .ints .i64 (2 * l3) g3, 0⟩), (6, ⟨false, 148, optC km mm, 0⟩)], .ifc 121 (.ptr 7 0), [], [(7, ⟨true, 137, .cells [.ifc 157 (.ptr 9 0), .slcc 8 4], 0⟩), (8, ⟨true, 106, .cells [.ifc 157 (.ptr 11 0), .ifc 157 (.ptr 13 0), .ifc 157 (.ptr 15 0), .ifc 157 (.ptr 17 0)], 1⟩), (9, ⟨true, 150, .cells (rectS len true (fI g) 10 0), 0⟩), (10, ⟨true, 100, .flts .f64 (2 * len) (fI g), 2⟩), (11, ⟨true, 150, .cells (rectS l0 true (fI g0) 12 0), 0⟩), (12, ⟨true, 100, .flts .f64 (2 * l0) (fI g0), 2⟩), (13, ⟨true, 150, .cells (rectS l1 true (fI g1) 14 0), 0⟩), (14, ⟨true, 100, .flts .f64 (2 * l1) (fI g1), 2⟩), (15, ⟨true, 150, .cells (rectS l2 true (fI g2) 16 0), 0⟩), (16, ⟨true, 100, .flts .f64 (2 * l2) (fI g2), 2⟩), (17, ⟨true, 150, .cells (rectS l3 true (fI g3) 18 0), 0⟩), (18, ⟨true, 100, .flts .f64 (2 * l3) (fI g3), 2⟩)], some (2 * len = 2 * len ∧ 2 * l0 = 2 * l0 ∧ 2 * l1 = 2 * l1 ∧ 2 * l2 = 2 * l2 ∧ 2 * l3 = 2 * l3 ∧ km = 0 ∧ (len ≤ 1000000 ∧ (ppBig len true = true → ppOk (fI g) len)) ∧ (l0 ≤ 1000000 ∧ (ppBig l0 true = true → ppOk (fI g0) l0)) ∧ (l1 ≤ 1000000 ∧ (ppBig l1 true = true → ppOk (fI g1) l1)) ∧ (l2 ≤ 1000000 ∧ (ppBig l2 true = true → ppOk (fI g2) l2)) ∧ (l3 ≤ 1000000 ∧ (ppBig l3 true = true → ppOk (fI g3) l3)))⟩ S v) = (
(false = true → False) ∧ (false = false → (false = true → (2 * len = 2 * len ∧ len ≤ 1000000) ∧ False) ∧ (false = false → (true = true → (∃ (_ : Nat), True ∧ ((True ∧ 0 = 0) ∧ (True ∧ 0 = 0) ∧
 True ∧ (True ∧ 4 = 4) ∧ (4 : Int) = 4 ∧ (0 : Int) = 0 ∧ True) ∧ True ∧ (2 * len ≤ 2 * len ∧ ∀ (i : Nat), i < 2 * len → g i = g i) ∧ True ∧ ((True ∧ l0 = l0) ∧ (True ∧ l1 = l1) ∧ (True ∧ l2 = l2)
∧ (True ∧ l3 = l3) ∧ True) ∧ True ∧ (2 * l0 ≤ 2 * l0 ∧ ∀ (i : Nat), i < 2 * l0 → g0 i = g0 i) ∧ True ∧ (2 * l1 ≤ 2 * l1 ∧ ∀ (i : Nat), i < 2 * l1 → g1 i = g1 i) ∧ True ∧ (2 * l2 ≤ 2 * l2
∧ ∀ (i : Nat), i < 2 * l2 → g2 i = g2 i) ∧ True ∧ (2 * l3 ≤ 2 * l3 ∧ ∀ (i : Nat), i < 2 * l3 → g3 i = g3 i) ∧ True ∧ (km = km ∧ mm = mm ∧ True) ∧ True ∧ (39 = 39 ∧ 0 = 0 ∧ (3 : Int) = (3
: Int) ∧ (True ∧ len = len) ∧ (True ∧ 4 = 4) ∧ True) ∧ True) ∧ (∀ (_ : Nat), True → (true = true → (((0 : Int) ≤ 0 ∧ (0 : Int) < 4) ∧ True) ∧ (2 * l0 = 2 * l0 ∧ l0 ≤ 1000000) ∧ ∃ (_ : Nat), True
∧ ((True ∧ 0 = 0) ∧ (True ∧ 0 = 0) ∧ (True ∧ 1 = 1) ∧ (True ∧ 4 = 4) ∧ (4 : Int) = 4 ∧ (1 : Int) = 1 ∧ True) ∧ True ∧ (2 * len ≤ 2 * len ∧ ∀ (i : Nat), i
< 2 * len → g i = g i) ∧ True ∧ ((True ∧ l0 = l0) ∧ (True ∧ l1 = l1) ∧ (True ∧ l2 = l2) ∧ (True ∧ l3 = l3) ∧ True) ∧ True ∧ (2 * l0 ≤ 2 * l0 ∧ ∀ (i : Nat), i < 2 * l0 → g0 i = g0 i) ∧ True ∧ (2 * l1 ≤ 2
* l1 ∧ ∀ (i : Nat), i < 2 * l1 → g1 i = g1 i) ∧ True ∧ (2 * l2 ≤ 2 * l2 ∧ ∀ (i : Nat), i < 2 * l2 → g2 i = g2 i) ∧ True ∧ (2 * l3 ≤ 2 * l3 ∧ ∀ (i : Nat), i < 2 * l3 → g3 i = g3 i) ∧ True ∧ (km =
 km ∧ mm = mm ∧ True) ∧ True ∧ (39 = 39 ∧ 0 = 0 ∧ (3 : Int) = 3 ∧ (True ∧ len = len) ∧ (True ∧ 4 = 4) ∧ True) ∧ True ∧ (118 = 118 ∧ 1 = 1 ∧ (True ∧ l0 = l0) ∧
 True) ∧ True ∧ (100 = 100 ∧ 2 = 2 ∧ 2 * l0 ≤ 2 * l0 ∧ ∀ (i : Nat), i < 2 * l0 → fI g0 i = fI g0 i) ∧ True) ∧ (true = false → (2 * len = 2 *
 len ∧ len ≤ 1000000) ∧ False)) ∧ (∀ (_ : Nat), True → (true = true → (((0 : Int) ≤ 1 ∧ (1 : Int) < 4) ∧ True) ∧ (2 * l1 = 2 * l1 ∧ l1 ≤ 1000000) ∧ (List.length [SV.slcc 9 l0] = 1 ∧ 48 ≤ 140737488355328 ∧ 2 ≤ 9223372036854775807) ∧ ∃ (_ : Nat), True ∧ ((True ∧ 0 = 0) ∧ (True ∧ 0 = 0) ∧ (True ∧ 2 = 2) ∧ (True ∧ 4 = 4) ∧ (4 : Int) = 4
∧ (2 : Int) = 2 ∧ True) ∧ True ∧ (2 * len ≤ 2 * len ∧ ∀ (i : Nat), i < 2 * len → g i = g i) ∧ True ∧ ((True ∧ l0 = l0) ∧ (True ∧ l1 = l1) ∧ (True ∧ l2 = l2) ∧ (True ∧ l3 = l3) ∧ True) ∧ True ∧ (2 * l0 ≤ 2 * l0 ∧ ∀ (i : Nat), i < 2 * l0 → g0 i = g0 i) ∧ True ∧ (2 * l1 ≤ 2 * l1 ∧ ∀ (i : Nat), i < 2 * l1 → g1 i = g1 i) ∧ True ∧ (2 * l2 ≤ 2 * l2 ∧ ∀ (i : Nat), i < 2 * l2 → g2 i = g2 i) ∧ True ∧
(2 * l3 ≤ 2 * l3 ∧ ∀ (i : Nat), i < 2 * l3 → g3 i = g3 i) ∧ True ∧ (km = km ∧ mm = mm ∧ True) ∧ True ∧ (39 = 39 ∧ 0 = 0 ∧ (3 : Int) = 3 ∧ (True ∧ len = len) ∧ (True ∧ 4 = 4) ∧ True) ∧ True ∧ (118 = 118 ∧ 1 = 1 ∧ (True ∧ l0 = l0) ∧ (True ∧ l1 = l1) ∧ True) ∧ True ∧ (100 = 100 ∧ 2 = 2 ∧ 2 * l0 ≤ 2 * l0 ∧ ∀ (i : Nat), i < 2 * l0 →
 fI g0 i = fI g0 i) ∧ True ∧ (100 = 100 ∧ 2 = 2 ∧ 2 * l1 ≤ 2 * l1 ∧ ∀ (i : Nat), i < 2 * l1 → fI g1 i = fI g1 i) ∧ True) ∧
(true = false → (2 * len = 2 * len ∧ len ≤ 1000000) ∧ False)) ∧ (∀ (_ : Nat), True → (true = true → (((0 : Int) ≤ 2 ∧ (2 : Int) < 4) ∧ True) ∧ (2 * l2 = 2 * l2 ∧ l2 ≤ 1000000) ∧
(List.length [SV.slcc 9 l0, SV.slcc 10 l1] = 2 ∧ 72 ≤ 140737488355328 ∧ 3 ≤ 9223372036854775807) ∧ ∃ (_ : Nat), True ∧ ((True ∧ 0 = 0) ∧ (True ∧ 0 = 0) ∧ (True ∧
3 = 3) ∧ (True ∧ 4 = 4) ∧ (4 : Int) = 4 ∧ (3 : Int) = 3 ∧ True) ∧ True ∧ (2 * len ≤ 2 * len ∧ ∀ (i : Nat), i < 2 * len → g i = g i) ∧ True ∧ ((True ∧ l0 = l0) ∧ (True ∧ l1 = l1)
∧ (True ∧ l2 = l2) ∧ (True ∧ l3 = l3) ∧ True) ∧ True ∧ (2 * l0 ≤ 2 * l0 ∧ ∀ (i : Nat), i < 2 * l0 → g0 i = g0 i) ∧ True ∧ (2 * l1 ≤ 2 * l1 ∧ ∀ (i : Nat), i < 2 * l1 → g1 i = g1 i) ∧ True ∧ (2 *
 l2 ≤ 2 * l2 ∧ ∀ (i : Nat), i < 2 * l2 → g2 i = g2 i) ∧ True ∧ (2 * l3 ≤ 2 * l3 ∧ ∀ (i : Nat), i < 2 * l3 → g3 i = g3 i) ∧ True ∧ (km = km ∧ mm = mm ∧ True) ∧ True ∧ (39 = 39 ∧ 0 = 0 ∧ (3 : Int) = 3 ∧ (True ∧ len = len) ∧ (True ∧ 4 = 4) ∧ True) ∧ True ∧ (118 = 118 ∧ 1 = 1 ∧ (True ∧ l0 = l0) ∧ (True ∧ l1 = l1) ∧ (True ∧ l2 = l2) ∧ True) ∧ True ∧ (100 = 100 ∧ 2 = 2 ∧ 2 * l0 ≤ 2 * l0 ∧ ∀ (i : Nat), i < 2 * l0 → fI g0 i = fI g0 i) ∧ True ∧ (100 = 100 ∧ 2 = 2 ∧ 2 * l1 ≤ 2 * l1 ∧
∀ (i : Nat), i < 2 * l1 → fI g1 i = fI g1 i) ∧ True ∧ (100 = 100 ∧ 2 = 2 ∧ 2 * l2 ≤ 2 * l2 ∧ ∀ (i : Nat), i < 2 * l2 → fI g2 i =
 fI g2 i) ∧ True) ∧ (true = false → (2 * len = 2 * len ∧ len ≤ 1000000) ∧ False)) ∧ (∀ (_ : Nat), True → (true = true → (((0 : Int) ≤ 3 ∧ (3 : Int) < 4) ∧ True) ∧ (2 * l3 = 2 *
 l3 ∧ l3 ≤ 1000000) ∧ (List.length [SV.slcc 9 l0, SV.slcc 10 l1, SV.slcc 11 l2] = 3 ∧ 96 ≤ 140737488355328 ∧ 4 ≤ 9223372036854775807) ∧ ∃ (_ : Nat), True ∧ ((True ∧ 0 = 0) ∧ (True ∧ 0 = 0) ∧ (True ∧ 4 = 4) ∧ (True ∧ 4 = 4) ∧ (4 : Int) = 4 ∧ (4 : Int) = 4 ∧ True) ∧ True ∧ (2 * len ≤ 2 * len ∧ ∀ (i : Nat), i < 2 * len → g i =
 g i) ∧ True ∧ ((True ∧ l0 = l0) ∧ (True ∧ l1 = l1) ∧ (True ∧ l2 = l2) ∧ (True ∧ l3 = l3) ∧ True) ∧ True ∧ (2 * l0 ≤ 2 * l0 ∧ ∀ (i : Nat), i < 2 * l0 → g0 i = g0 i) ∧ True ∧ (2 * l1 ≤ 2 * l1 ∧ ∀ (i : Nat), i <
2 * l1 → g1 i = g1 i) ∧ True ∧ (2 * l2 ≤ 2 * l2 ∧ ∀ (i : Nat), i < 2 * l2 → g2 i = g2 i) ∧ True ∧ (2 * l3 ≤ 2 * l3 ∧ ∀ (i : Nat), i < 2 * l3 → g3 i = g3 i) ∧ True ∧ (km = km ∧ mm = mm ∧ True) ∧
 True ∧ (39 = 39 ∧ 0 = 0 ∧ (3 : Int) = 3 ∧ (True ∧ len = len) ∧ (True ∧ 4 = 4) ∧ True) ∧ True ∧ (118 = 118 ∧ 1 = 1 ∧ (True ∧ l0 = l0) ∧ (True ∧ l1 = l1) ∧ (True ∧
 l2 = l2) ∧ (True ∧ l3 = l3) ∧ True) ∧ True ∧ (100 = 100 ∧ 2 = 2 ∧ 2 * l0 ≤ 2 * l0 ∧ ∀ (i : Nat), i < 2 * l0 → fI g0 i = fI g0 i) ∧ True ∧ (100 = 100 ∧ 2 = 2 ∧ 2 * l1 ≤ 2 * l1 ∧ ∀ (i : Nat), i < 2 * l1 → fI g1 i = fI g1 i) ∧ True ∧ (100 = 100 ∧ 2 = 2 ∧ 2 * l2 ≤ 2 * l2
∧ ∀ (i : Nat), i < 2 * l2 → fI g2 i = fI g2 i) ∧ True ∧ (100 = 100 ∧ 2 = 2 ∧ 2 * l3 ≤ 2 * l3 ∧ ∀ (i : Nat), i < 2 * l3 → fI g3 i =
 fI g3 i) ∧ True) ∧ (true = false → (2 * len = 2 * len ∧ len ≤ 1000000) ∧ False)) ∧ (∀ (_ : Nat), True → (false = true → (((0 : Int) ≤ 4 ∧ (4 : Int) < 4) ∧ True) ∧ False) ∧ (false = false → (2 * len = 2 * len ∧ len ≤ 1000000) ∧ (2 * len = 2 * len ∧ 2 * l0 = 2 * l0 ∧ 2 * l1 = 2 * l1 ∧ 2 * l2 = 2 * l2 ∧ 2 * l3 = 2 * l3 ∧ km = (0 : Int) ∧
(len ≤ 1000000 ∧ (ppBig len true = true → ppOk (fI g) len)) ∧ (l0 ≤ 1000000 ∧ (ppBig l0 true = true → ppOk (fI g0) l0)) ∧ (l1
≤ 1000000 ∧ (ppBig l1 true = true → ppOk (fI g1) l1)) ∧ (l2 ≤ 1000000 ∧ (ppBig l2 true = true → ppOk (fI g2) l2)) ∧ l3 ≤
1000000 ∧ (ppBig l3 true = true → ppOk (fI g3) l3)) ∧ (True ∧ 0 = 0) ∧ True ∧ (137 = 137 ∧ 0 = 0 ∧ (True ∧ 0 = 0) ∧ (True ∧
4 = 4) ∧ True) ∧ True ∧ (106 = 106 ∧ 1 = 1 ∧ (True ∧ 0 = 0) ∧ (True ∧ 0 = 0) ∧ (True ∧ 0 = 0) ∧ (True ∧ 0 = 0) ∧ True) ∧ True ∧ (150 = 150 ∧ 0 = 0 ∧ true = true ∧ (ppBig len true && fGt .f64 (cwF (fI g) len len) 0) = (ppBig len true && fGt .f64
(cwF (fI g) len len) 0) ∧ (ppBig len true && !(dcF (fI g) len len).2) = (ppBig len true && !(dcF
(fI g) len len).2) ∧ (0 : Int) = 0 ∧ True ∧ pick (ppBig len true) (rlo (fI g) 0 len) = pick (ppBig len true)
(rlo (fI g) 0 len) ∧ pick (ppBig len true) (rlo (fI g) 1 len) = pick (ppBig len true)
(rlo (fI g) 1 len) ∧ pick (ppBig len true) (rhi (fI g) 0 len) = pick (ppBig len true)
(rhi (fI g) 0 len) ∧ pick (ppBig len true) (rhi (fI g) 1 len) = pick (ppBig len true)
(rhi (fI g) 1 len) ∧ (True ∧ len = len) ∧ True) ∧ True ∧ (100 = 100 ∧ 2 = 2 ∧ 2 * len ≤ 2 * len ∧ ∀ (i : Nat), i < 2 * len → fI g i
= fI g i) ∧ True ∧ (150 = 150 ∧ 0 = 0 ∧ true = true ∧ (ppBig l0 true && fGt .f64 (cwF (fI g0) l0 l0) 0) = (ppBig
 l0 true && fGt .f64 (cwF (fI g0) l0 l0) 0) ∧ (ppBig l0 true && !(dcF (fI g0) l0 l0).2) = (ppBig l0 true && !Prod.snd
(dcF (fI g0) l0 l0)) ∧ (0 : Int) = 0 ∧ True ∧ pick (ppBig l0 true) (rlo (fI g0) 0 l0) = pick
(ppBig l0 true) (rlo (fI g0) 0 l0) ∧ pick (ppBig l0 true) (rlo (fI g0) 1 l0) = pick
(ppBig l0 true) (rlo (fI g0) 1 l0) ∧ pick (ppBig l0 true) (rhi (fI g0) 0 l0) = pick
(ppBig l0 true) (rhi (fI g0) 0 l0) ∧ pick (ppBig l0 true) (rhi (fI g0) 1 l0) = pick
(ppBig l0 true) (rhi (fI g0) 1 l0) ∧ (True ∧ l0 = l0) ∧ True) ∧ True ∧ (100 = 100 ∧ 2 = 2 ∧ 2 * l0 ≤ 2 * l0 ∧ ∀ (i : Nat), i < 2 *
 l0 → fI g0 i = fI g0 i) ∧ True ∧ (150 = 150 ∧ 0 = 0 ∧ true = true ∧ (ppBig l1 true && fGt .f64 (cwF (fI g1) l1 l1) 0) = (ppBig l1 true && fGt .f64 (cwF (fI g1) l1 l1) 0) ∧ (ppBig l1 true && !(dcF (fI g1) l1 l1).2) =
(ppBig l1 true && !(dcF (fI g1) l1 l1).2) ∧ (0 : Int) = 0 ∧ True ∧ pick (ppBig l1 true) (rlo (fI g1) 0 l1) = pick (ppBig l1 true) (rlo (fI g1) 0 l1) ∧ pick (ppBig l1 true) (rlo (fI g1) 1
 l1) = pick (ppBig l1 true) (rlo (fI g1) 1 l1) ∧ pick (ppBig l1 true) (rhi (fI g1) 0 l1) =
 pick (ppBig l1 true) (rhi (fI g1) 0 l1) ∧ pick (ppBig l1 true) (rhi (fI g1) 1 l1) =
 pick (ppBig l1 true) (rhi (fI g1) 1 l1) ∧ (True ∧ l1 = l1) ∧ True) ∧ True ∧ (100 = 100 ∧ 2 = 2 ∧ 2 * l1 ≤ 2 * l1 ∧ ∀ (i :
 Nat), i < 2 * l1 → fI g1 i = fI g1 i) ∧ True ∧ (150 = 150 ∧ 0 = 0 ∧ true = true ∧ (ppBig l2 true && fGt .f64 (cwF
(fI g2) l2 l2) 0) = (ppBig l2 true && fGt .f64 (cwF (fI g2) l2 l2) 0) ∧ (ppBig l2 true && !(dcF
(fI g2) l2 l2).2) = (ppBig l2 true && !(dcF (fI g2) l2 l2).2) ∧ (0 : Int) = 0 ∧ True ∧ pick (ppBig l2 true)
(rlo (fI g2) 0 l2) = pick (ppBig l2 true) (rlo (fI g2) 0 l2) ∧ pick (ppBig l2 true)
(rlo (fI g2) 1 l2) = pick (ppBig l2 true) (rlo (fI g2) 1 l2) ∧ pick (ppBig l2 true)
(rhi (fI g2) 0 l2) = pick (ppBig l2 true) (rhi (fI g2) 0 l2) ∧ pick (ppBig l2 true)
(rhi (fI g2) 1 l2) = pick (ppBig l2 true) (rhi (fI g2) 1 l2) ∧ (True ∧ l2 = l2) ∧ True) ∧ True ∧ (100 = 100 ∧
2 = 2 ∧ 2 * l2 ≤ 2 * l2 ∧ ∀ (i : Nat), i < 2 * l2 → fI g2 i = fI g2 i) ∧ True ∧ (150 = 150 ∧ 0 = 0 ∧ true = true ∧ (ppBig l3
 true && fGt .f64 (cwF (fI g3) l3 l3) 0) = (ppBig l3 true && fGt .f64 (cwF (fI g3) l3 l3) 0) ∧ (ppBig l3 true &&
!(dcF (fI g3) l3 l3).2) = (ppBig l3 true && !(dcF (fI g3) l3 l3).2) ∧ (0 : Int) = 0 ∧ True ∧ pick
(ppBig l3 true) (rlo (fI g3) 0 l3) = pick (ppBig l3 true) (rlo (fI g3) 0 l3) ∧ pick
(ppBig l3 true) (rlo (fI g3) 1 l3) = pick (ppBig l3 true) (rlo (fI g3) 1 l3) ∧ pick
(ppBig l3 true) (rhi (fI g3) 0 l3) = pick (ppBig l3 true) (rhi (fI g3) 0 l3) ∧ pick
(ppBig l3 true) (rhi (fI g3) 1 l3) = pick (ppBig l3 true) (rhi (fI g3) 1 l3) ∧ (True ∧ l3 = l3) ∧ True) ∧
 True ∧ (100 = 100 ∧ 2 = 2 ∧ 2 * l3 ≤ 2 * l3 ∧ ∀ (i : Nat), i < 2 * l3 → fI g3 i = fI g3 i) ∧ True)) ∧ True) ∧ (true = false → False)))) := by kernel_rfl
theorem shP4 : ConOk Tryz.prog 63 (conR shP4C) := by
 refine con_of_vc gSP4 Tryz.func63 rfl (by kernel_rfl) fun args => ?_
 unfold shP4C
 split
 · rename_i n len h o
   intro o0
   show RdM.All _ (match intsFrom .i64 o0.c with | some (m, g) => _ | none => _) _
   split
   · rename_i m0 g hm0
     intro o1
     show RdM.All _ (match hol4 o1.c with | some (q0, l0, q1, l1, q2, l2, q3, l3) => _ | none => _) _
     split
     · rename_i q0 l0 q1 l1 q2 l2 q3 l3 hm1
       intro o2
       show RdM.All _ (match intsFrom .i64 o2.c with | some (m, g) => _ | none => _) _
       split
       · rename_i m2 g0 hm2
         intro o3
         show RdM.All _ (match intsFrom .i64 o3.c with | some (m, g) => _ | none => _) _
         split
         · rename_i m3 g1 hm3
           intro o4
           show RdM.All _ (match intsFrom .i64 o4.c with | some (m, g) => _ | none => _) _
           split
           · rename_i m4 g2 hm4
             intro o5
             show RdM.All _ (match intsFrom .i64 o5.c with | some (m, g) => _ | none => _) _
             split
             · rename_i m5 g3 hm5
               intro o6
               show RdM.All _ (match optOf o6.c with | some (km, mm) => _ | none => _) _
               split
               · rename_i km mm hm6
                 intro ho
                 replace ho : m0 = 2 * len ∧ m2 = 2 * l0 ∧ m3 = 2 * l1 ∧ m4 = 2 * l2 ∧ m5 = 2 * l3 ∧ km = 0 ∧ (len ≤ 1000000 ∧ (ppBig len true = true → ppOk (fI g) len)) ∧ (l0 ≤ 1000000 ∧ (ppBig l0 true = true → ppOk (fI g0) l0)) ∧ (l1 ≤ 1000000 ∧ (ppBig l1 true = true → ppOk (fI g1) l1)) ∧ (l2 ≤ 1000000 ∧ (ppBig l2 true = true → ppOk (fI g2) l2)) ∧ (l3 ≤ 1000000 ∧ (ppBig l3 true = true → ppOk (fI g3) l3)) := ho
                 obtain ⟨hsz0, hsz2, hsz3, hsz4, hsz5, ho⟩ := ho
                 subst hsz0
                 subst hsz2
                 subst hsz3
                 subst hsz4
                 subst hsz5
                 refine ⟨?_, _, _, (vc_shP4 len km mm l0 l1 l2 l3 q0 q1 q2 q3 g g0 g1 g2 g3).mpr ?_⟩
                 · refine okFlag_mk rfl ⟨?_, ⟨trivial, (contR_ints hm0).1, ⟨trivial, hol4_spec hm1 (by simp [sgSig, fsts, nth, sameN_self]) (by simp [sgSig, fsts, nth, sameN_self]) (by simp [sgSig, fsts, nth, sameN_self]) (by simp [sgSig, fsts, nth, sameN_self]), ⟨trivial, (contR_ints hm2).1, ⟨trivial, (contR_ints hm3).1, ⟨trivial, (contR_ints hm4).1, ⟨trivial, (contR_ints hm5).1, ⟨trivial, optOf_spec hm6, trivial⟩⟩⟩⟩⟩⟩⟩⟩
                   simp [eqvRL, eqvR, kEq_self, sgSig, fsts, nth, sameN_self]
                 · obtain ⟨hk, ⟨h1, h2⟩, ⟨a0, b0⟩, ⟨a1, b1⟩, ⟨a2, b2⟩, a3, b3⟩ := ho
                   simp [hk, h1, a0, a1, a2, a3]
                   exact ⟨h2, b0, b1, b2, b3⟩
               · trivial
             · trivial
           · trivial
         · trivial
       · trivial
     · trivial
   · trivial
 · trivial
end Go.Proofs.Tryz.Sx
