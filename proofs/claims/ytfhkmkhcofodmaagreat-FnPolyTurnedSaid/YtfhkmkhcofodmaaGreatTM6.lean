/- Part of a proof: ZTa. -/
import Derived.Test.YtfhkmkhcofodmaaGreatTM5
namespace Go.Proofs.Tryz.Sx
open Go Go.Sx Go.Proofs Go.Fl Go.Geo
set_option maxRecDepth 100000
def hol0 : Cont → Option Unit
 | .cells [] => some ()
 | _ => none
theorem hol0_spec {σ : Sig} {c : Cont} {u : Unit} (h : hol0 c = some u) : contR σ c (.cells []) := by
 unfold hol0 at h
 split at h
 · trivial
 · cases h
def hol1 : Cont → Option (Nm × Nat)
 | .cells [.slcc q0 l0] => some (q0, l0)
 | _ => none
theorem hol1_spec {σ : Sig} {c : Cont} {p0 q0 : Nm} {l0 : Nat} (h : hol1 c = some (p0, l0)) (s0 : sameN (σ q0) p0) : contR σ c (.cells [.slcc q0 l0]) := by
 unfold hol1 at h
 split at h
 · simp only [Option.some.injEq, Prod.mk.injEq] at h
   obtain ⟨rfl, rfl⟩ := h
   show eqvRL σ _ _
   simp [eqvRL, eqvR, s0]
 · cases h
def hol2 : Cont → Option (Nm × Nat × Nm × Nat)
 | .cells [.slcc q0 l0, .slcc q1 l1] => some (q0, l0, q1, l1)
 | _ => none
theorem hol2_spec {σ : Sig} {c : Cont} {p0 q0 p1 q1 : Nm} {l0 l1 : Nat} (h : hol2 c = some (p0, l0, p1, l1)) (s0 : sameN (σ q0) p0) (s1 : sameN (σ q1) p1) : contR σ c (.cells [.slcc q0 l0, .slcc q1 l1]) := by
 unfold hol2 at h
 split at h
 · simp only [Option.some.injEq, Prod.mk.injEq] at h
   obtain ⟨rfl, rfl, rfl, rfl⟩ := h
   show eqvRL σ _ _
   simp [eqvRL, eqvR, s0, s1]
 · cases h
def hol3 : Cont → Option (Nm × Nat × Nm × Nat × Nm × Nat)
 | .cells [.slcc q0 l0, .slcc q1 l1, .slcc q2 l2] => some (q0, l0, q1, l1, q2, l2)
 | _ => none
theorem hol3_spec {σ : Sig} {c : Cont} {p0 q0 p1 q1 p2 q2 : Nm} {l0 l1 l2 : Nat} (h : hol3 c = some (p0, l0, p1, l1, p2, l2)) (s0 : sameN (σ q0) p0) (s1 : sameN (σ q1) p1) (s2 : sameN (σ q2) p2) : contR σ c (.cells [.slcc q0 l0, .slcc q1 l1, .slcc q2 l2]) := by
 unfold hol3 at h
 split at h
 · simp only [Option.some.injEq, Prod.mk.injEq] at h
   obtain ⟨rfl, rfl, rfl, rfl, rfl, rfl⟩ := h
   show eqvRL σ _ _
   simp [eqvRL, eqvR, s0, s1, s2]
 · cases h
def hol4 : Cont → Option (Nm × Nat × Nm × Nat × Nm × Nat × Nm × Nat)
 | .cells [.slcc q0 l0, .slcc q1 l1, .slcc q2 l2, .slcc q3 l3] => some (q0, l0, q1, l1, q2, l2, q3, l3)
 | _ => none
theorem hol4_spec {σ : Sig} {c : Cont} {p0 q0 p1 q1 p2 q2 p3 q3 : Nm} {l0 l1 l2 l3 : Nat} (h : hol4 c = some (p0, l0, p1, l1, p2, l2, p3, l3)) (s0 : sameN (σ q0) p0) (s1 : sameN (σ q1) p1) (s2 : sameN (σ q2) p2) (s3 : sameN (σ q3) p3) : contR σ c (.cells [.slcc q0 l0, .slcc q1 l1, .slcc q2 l2, .slcc q3 l3]) := by
 unfold hol4 at h
 split at h
 · simp only [Option.some.injEq, Prod.mk.injEq] at h
   obtain ⟨rfl, rfl, rfl, rfl, rfl, rfl, rfl, rfl⟩ := h
   show eqvRL σ _ _
   simp [eqvRL, eqvR, s0, s1, s2, s3]
 · cases h
def fitB (l : Nat) : Bool := decide ((l : Int) ≤ 2147483647)
def isPg (n : Int) (l : Nat) (g : Nat → Int) : Bool := decide ((l : Int) ≤ n) && geoAll (2 * l) g
noncomputable def zf3_0C : List SV → RdM
 | [.slcc h 0] => .read h fun o0 => (match hol0 o0.c with
   | some _ => .ret ⟨[.slcc 0 0], [(0, ⟨false, 26, .cells [], 0⟩)], .bool (true), [], [], some (True)⟩
   | none => .fail)
 | _ => .fail
theorem vc_zf3_0 (_ : Unit) : runA G0 1 [(4, .unr [⟨Nat, fun _ => ⟨18, [(8, .slcc 0 0), (9, .int .i64 0), (10, .int .i64 0)], [(0, ⟨false, 26, .cells [], 0⟩)], 1⟩, fun _ => True, fun _ => 0⟩])] [] (codeOf Tryz.f78) (init Tryz.f78.ntmps [.slcc 0 0] [(0, ⟨false, 26, .cells [], 0⟩)] 1) (endK G0.E.T Tryz.f78.results.toList fun S v => postP 1 ⟨[.slcc 0 0], [(0, ⟨false, 26, .cells [], 0⟩)], .bool (true), [], [], some (True)⟩ S v) = (
(false = true → true = false ∧ True) ∧ (false = false → (∃ (_ : Nat), True ∧ ((True ∧ 0 = 0) ∧ (0 : Int) = 0 ∧ (0 : Int) = 0 ∧ True) ∧ True ∧ True ∧ True) ∧ (∀ (_ : Nat), True → (false = true → (((0 : Int) ≤ 0
∧ (0 : Int) < 0) ∧ 1 ≤ 0) ∧ False) ∧ (false = false → true = true ∧ True)) ∧ True)) := by kernel_rfl
theorem zf3_0 : ConOk Tryz.prog 78 (conR zf3_0C) := by
 refine con_of_vc g0 Tryz.func78 rfl (by kernel_rfl) fun args => ?_
 unfold zf3_0C
 split
 · rename_i h
   intro o0
   show RdM.All _ (match hol0 o0.c with | some u => _ | none => _) _
   split
   · rename_i u hm0
     intro ho
     replace ho : True := ho
     refine ⟨?_, _, _, (vc_zf3_0 u).mpr ?_⟩
     · refine okFlag_mk rfl ⟨?_, ⟨trivial, hol0_spec hm0, trivial⟩⟩
       simp [eqvRL, eqvR, sgSig, fsts, nth, sameN_self]
     · simp []
   · trivial
 · trivial
noncomputable def zf3_1C : List SV → RdM
 | [.slcc h 1] => .read h fun o0 => (match hol1 o0.c with
   | some (q0, l0) => .read q0 fun o1 => (match intsFrom .i64 o1.c with
   | some (m1, g0) => .ret ⟨[.slcc 0 1], [(0, ⟨false, 26, .cells [.slcc 1 l0], 0⟩), (1, ⟨false, 28, .ints .i64 m1 g0, 0⟩)], .bool (true && fitB l0), [], [], some (m1 = 2 * l0 ∧ True)⟩
   | none => .fail)
   | none => .fail)
 | _ => .fail
theorem vc_zf3_1 (l0 : Nat) (_ : Nm)  (g0 : Nat → Int) : runA G0 2 [(4, .unr [⟨Nat, fun _ => ⟨18, [(8, .slcc 0 1), (9, .int .i64 1), (10, .int .i64 0)], [(0, ⟨false, 26, .cells [.slcc 1 l0], 0⟩), (1, ⟨false, 28, .ints .i64 (2 * l0) g0, 0⟩)], 2⟩, fun _ => True, fun _ => 0⟩, ⟨Nat, fun _ => ⟨18, [(8, .slcc 0 1), (9, .int .i64 1), (10, .int .i64 1)], [(0, ⟨false, 26, .cells [.slcc 1 l0], 0⟩), (1, ⟨false, 28, .ints .i64 (2 * l0) g0, 0⟩)], 2⟩, fun _ => True ∧ fitB l0 = true, fun _ => 0⟩])] [] (codeOf Tryz.f78) (init Tryz.f78.ntmps [.slcc 0 1] [(0, ⟨false, 26, .cells [.slcc 1 l0], 0⟩), (1, ⟨false, 28, .ints .i64 (2 * l0) g0, 0⟩)] 2) (endK G0.E.T Tryz.f78.results.toList fun S v => postP 2 ⟨[.slcc 0 1], [(0, ⟨false, 26, .cells [.slcc 1 l0], 0⟩), (1, ⟨false, 28, .ints .i64 (2 * l0) g0, 0⟩)], .bool (true && fitB l0), [], [], some (2 * l0 = 2 * l0 ∧ True)⟩ S v) = (
(false = true → (true && fitB l0) = false ∧ True) ∧ (false = false → (∃ (_ : Nat), True ∧ ((True ∧ 1 = 1) ∧ (1 : Int) = 1 ∧ (0 : Int) = 0 ∧ True) ∧ True ∧ ((True ∧ l0 = l0) ∧ True) ∧ True ∧ (2
* l0 ≤ 2 * l0 ∧ ∀ (i : Nat), i < 2 * l0 → g0 i = g0 i) ∧ True) ∧ (∀ (_ : Nat), True → (true = true → (((0 : Int) ≤ 0 ∧ (0 : Int) < 1) ∧ True) ∧ (decide (2147483647 < (↑l0 : Int)) = true → (true &&
 fitB l0) = false ∧ True) ∧ (decide (2147483647 < (↑l0 : Int)) = false → ∃ (_ : Nat), (True ∧ fitB l0 = true) ∧ ((True ∧ 1 = 1) ∧ (1 : Int) = 1 ∧ (1 : Int) = 1 ∧ True) ∧ True
∧ ((True ∧ l0 = l0) ∧ True) ∧ True ∧ (2 * l0 ≤ 2 * l0 ∧ ∀ (i : Nat), i < 2 * l0 → g0 i = g0 i) ∧ True)) ∧ (true = false → (true && fitB l0) = true ∧ True)) ∧ (∀ (_ : Nat), True ∧ fitB l0 =
 true → (false = true → (((0 : Int) ≤ 1 ∧ (1 : Int) < 1) ∧ True) ∧ False) ∧ (false = false → (true && fitB l0) = true ∧ True)) ∧ True)) := by kernel_rfl
theorem zf3_1 : ConOk Tryz.prog 78 (conR zf3_1C) := by
 refine con_of_vc g0 Tryz.func78 rfl (by kernel_rfl) fun args => ?_
 unfold zf3_1C
 split
 · rename_i h
   intro o0
   show RdM.All _ (match hol1 o0.c with | some (q0, l0) => _ | none => _) _
   split
   · rename_i q0 l0 hm0
     intro o1
     show RdM.All _ (match intsFrom .i64 o1.c with | some (m, g) => _ | none => _) _
     split
     · rename_i m1 g0 hm1
       intro ho
       replace ho : m1 = 2 * l0 ∧ True := ho
       obtain ⟨hsz1, ho⟩ := ho
       subst hsz1
       refine ⟨?_, _, _, (vc_zf3_1 l0 q0 g0).mpr ?_⟩
       · refine okFlag_mk rfl ⟨?_, ⟨trivial, hol1_spec hm0 (by simp [sgSig, fsts, nth, sameN_self]), ⟨trivial, (contR_ints hm1).1, trivial⟩⟩⟩
         simp [eqvRL, eqvR, sgSig, fsts, nth, sameN_self]
       · simp [fitB] <;> omega
     · trivial
   · trivial
 · trivial
noncomputable def zf3_2C : List SV → RdM
 | [.slcc h 2] => .read h fun o0 => (match hol2 o0.c with
   | some (q0, l0, q1, l1) => .read q0 fun o1 => (match intsFrom .i64 o1.c with
   | some (m1, g0) => .read q1 fun o2 => (match intsFrom .i64 o2.c with
   | some (m2, g1) => .ret ⟨[.slcc 0 2], [(0, ⟨false, 26, .cells [.slcc 1 l0, .slcc 2 l1], 0⟩), (1, ⟨false, 28, .ints .i64 m1 g0, 0⟩), (2, ⟨false, 28, .ints .i64 m2 g1, 0⟩)], .bool (true && fitB l0 && fitB l1), [], [], some (m1 = 2 * l0 ∧ m2 = 2 * l1 ∧ True)⟩
   | none => .fail)
   | none => .fail)
   | none => .fail)
 | _ => .fail
theorem vc_zf3_2 (l0 l1 : Nat) (_ _ : Nm)  (g0 : Nat → Int) (g1 : Nat → Int) : runA G0 3 [(4, .unr [⟨Nat, fun _ => ⟨18, [(8, .slcc 0 2), (9, .int .i64 2), (10, .int .i64 0)], [(0, ⟨false, 26, .cells [.slcc 1 l0, .slcc 2 l1], 0⟩), (1, ⟨false, 28, .ints .i64 (2 * l0) g0, 0⟩), (2, ⟨false, 28, .ints .i64 (2 * l1) g1, 0⟩)], 3⟩, fun _ => True, fun _ => 0⟩, ⟨Nat, fun _ => ⟨18, [(8, .slcc 0 2), (9, .int .i64 2), (10, .int .i64 1)], [(0, ⟨false, 26, .cells [.slcc 1 l0, .slcc 2 l1], 0⟩), (1, ⟨false, 28, .ints .i64 (2 * l0) g0, 0⟩), (2, ⟨false, 28, .ints .i64 (2 * l1) g1, 0⟩)], 3⟩, fun _ => True ∧ fitB l0 = true, fun _ => 0⟩, ⟨Nat, fun _ => ⟨18, [(8, .slcc 0 2), (9, .int .i64 2), (10, .int .i64 2)], [(0, ⟨false, 26, .cells [.slcc 1 l0, .slcc 2 l1], 0⟩), (1, ⟨false, 28, .ints .i64 (2 * l0) g0, 0⟩), (2, ⟨false, 28, .ints .i64 (2 * l1) g1, 0⟩)], 3⟩, fun _ => True ∧ fitB l0 = true ∧ fitB l1 = true, fun _ => 0⟩])] [] (codeOf Tryz.f78) (init Tryz.f78.ntmps [.slcc 0 2] [(0, ⟨false, 26, .cells [.slcc 1 l0, .slcc 2 l1], 0⟩), (1, ⟨false, 28, .ints .i64 (2 * l0) g0, 0⟩), (2, ⟨false, 28, .ints .i64 (2 * l1) g1, 0⟩)] 3) (endK G0.E.T Tryz.f78.results.toList fun S v => postP 3 ⟨[.slcc 0 2], [(0, ⟨false, 26, .cells [.slcc 1 l0, .slcc 2 l1], 0⟩), (1, ⟨false, 28, .ints .i64 (2 * l0) g0, 0⟩), (2, ⟨false, 28, .ints .i64 (2 * l1) g1, 0⟩)], .bool (true && fitB l0 && fitB l1), [], [], some (2 * l0 = 2 * l0 ∧ 2 * l1 = 2 * l1 ∧ True)⟩ S v) = (
(false = true → (true && fitB l0 && fitB l1) = false ∧ True) ∧ (false = false → (∃ (_ : Nat), True ∧ ((True ∧ 2 = 2) ∧ (2 : Int) = 2 ∧ (0 : Int) = 0 ∧ True) ∧ True ∧ ((True ∧ l0 =
 l0) ∧ (True ∧ l1 = l1) ∧ True) ∧ True ∧ (2 * l0 ≤ 2 * l0 ∧ ∀ (i : Nat), i < 2 * l0 → g0 i = g0 i) ∧ True ∧ (2 * l1 ≤ 2 * l1 ∧ ∀ (i : Nat), i < 2 * l1 → g1 i = g1 i) ∧ True) ∧ (∀ (_ : Nat), True → (true
= true → (((0 : Int) ≤ 0 ∧ (0 : Int) < 2) ∧ True) ∧ (decide (2147483647 < (↑l0 : Int)) = true → (true && fitB l0 && fitB l1) = false ∧ True) ∧ (decide (2147483647 < (↑l0 : Int)) =
 false → ∃ (_ : Nat), (True ∧ fitB l0 = true) ∧ ((True ∧ 2 = 2) ∧ (2 : Int) = 2 ∧ (1 : Int) = 1 ∧ True) ∧ True ∧ ((True ∧ l0 = l0) ∧ (True ∧ l1 = l1) ∧ True) ∧ True ∧ (2 * l0 ≤ 2 * l0 ∧
∀ (i : Nat), i < 2 * l0 → g0 i = g0 i) ∧ True ∧ (2 * l1 ≤ 2 * l1 ∧ ∀ (i : Nat), i < 2 * l1 → g1 i = g1 i) ∧ True)) ∧ (true = false → (true && fitB l0 && fitB l1) = true ∧ True)) ∧ (∀
(_ : Nat), True ∧ fitB l0 = true → (true = true → (((0 : Int) ≤ 1 ∧ (1 : Int) < 2) ∧ True) ∧ (decide (2147483647 < (↑l1 : Int)) = true → (true && fitB l0 && fitB l1) =
 false ∧ True) ∧ (decide (2147483647 < (↑l1 : Int)) = false → ∃ (_ : Nat), (True ∧ fitB l0 = true ∧ fitB l1 = true) ∧ ((True ∧ 2 = 2) ∧ (2 : Int) = 2 ∧ (2 : Int) = 2 ∧ True) ∧
 True ∧ ((True ∧ l0 = l0) ∧ (True ∧ l1 = l1) ∧ True) ∧ True ∧ (2 * l0 ≤ 2 * l0 ∧ ∀ (i : Nat), i < 2 * l0 → g0 i = g0 i) ∧ True ∧ (2 * l1 ≤ 2 * l1 ∧ ∀ (i : Nat), i < 2 * l1 → g1 i = g1 i) ∧ True)) ∧ (true
= false → (true && fitB l0 && fitB l1) = true ∧ True)) ∧ (∀ (_ : Nat), True ∧ fitB l0 = true ∧ fitB l1 = true → (false = true → (((0 : Int) ≤ 2 ∧ (2 : Int) < 2) ∧
 True) ∧ False) ∧ (false = false → (true && fitB l0 && fitB l1) = true ∧ True)) ∧ True)) := by kernel_rfl
theorem zf3_2 : ConOk Tryz.prog 78 (conR zf3_2C) := by
 refine con_of_vc g0 Tryz.func78 rfl (by kernel_rfl) fun args => ?_
 unfold zf3_2C
 split
 · rename_i h
   intro o0
   show RdM.All _ (match hol2 o0.c with | some (q0, l0, q1, l1) => _ | none => _) _
   split
   · rename_i q0 l0 q1 l1 hm0
     intro o1
     show RdM.All _ (match intsFrom .i64 o1.c with | some (m, g) => _ | none => _) _
     split
     · rename_i m1 g0 hm1
       intro o2
       show RdM.All _ (match intsFrom .i64 o2.c with | some (m, g) => _ | none => _) _
       split
       · rename_i m2 g1 hm2
         intro ho
         replace ho : m1 = 2 * l0 ∧ m2 = 2 * l1 ∧ True := ho
         obtain ⟨hsz1, hsz2, ho⟩ := ho
         subst hsz1
         subst hsz2
         refine ⟨?_, _, _, (vc_zf3_2 l0 l1 q0 q1 g0 g1).mpr ?_⟩
         · refine okFlag_mk rfl ⟨?_, ⟨trivial, hol2_spec hm0 (by simp [sgSig, fsts, nth, sameN_self]) (by simp [sgSig, fsts, nth, sameN_self]), ⟨trivial, (contR_ints hm1).1, ⟨trivial, (contR_ints hm2).1, trivial⟩⟩⟩⟩
           simp [eqvRL, eqvR, sgSig, fsts, nth, sameN_self]
         · simp [fitB] <;> omega
       · trivial
     · trivial
   · trivial
 · trivial
noncomputable def zf3_3C : List SV → RdM
 | [.slcc h 3] => .read h fun o0 => (match hol3 o0.c with
   | some (q0, l0, q1, l1, q2, l2) => .read q0 fun o1 => (match intsFrom .i64 o1.c with
   | some (m1, g0) => .read q1 fun o2 => (match intsFrom .i64 o2.c with
   | some (m2, g1) => .read q2 fun o3 => (match intsFrom .i64 o3.c with
   | some (m3, g2) => .ret ⟨[.slcc 0 3], [(0, ⟨false, 26, .cells [.slcc 1 l0, .slcc 2 l1, .slcc 3 l2], 0⟩), (1, ⟨false, 28, .ints .i64 m1 g0, 0⟩), (2, ⟨false, 28, .ints .i64 m2 g1, 0⟩), (3, ⟨false, 28, .ints .i64 m3 g2, 0⟩)], .bool (true && fitB l0 && fitB l1 && fitB l2), [], [], some (m1 = 2 * l0 ∧ m2 = 2 * l1 ∧ m3 = 2 * l2 ∧ True)⟩
   | none => .fail)
   | none => .fail)
   | none => .fail)
   | none => .fail)
 | _ => .fail
theorem vc_zf3_3 (l0 l1 l2 : Nat) (_ _ _ : Nm)  (g0 : Nat → Int) (g1 : Nat → Int) (g2 : Nat → Int) : runA G0 4 [(4, .unr [⟨Nat, fun _ => ⟨18, [(8, .slcc 0 3), (9, .int .i64 3), (10, .int .i64 0)], [(0, ⟨false, 26, .cells [.slcc 1 l0, .slcc 2 l1, .slcc 3 l2], 0⟩), (1, ⟨false, 28, .ints .i64 (2 * l0) g0, 0⟩), (2, ⟨false, 28, .ints .i64 (2 * l1) g1, 0⟩), (3, ⟨false, 28, .ints .i64 (2 * l2) g2, 0⟩)], 4⟩, fun _ => True, fun _ => 0⟩, ⟨Nat, fun _ => ⟨18, [(8, .slcc 0 3), (9, .int .i64 3), (10, .int .i64 1)], [(0, ⟨false, 26, .cells [.slcc 1 l0, .slcc 2 l1, .slcc 3 l2], 0⟩), (1, ⟨false, 28, .ints .i64 (2 * l0) g0, 0⟩), (2, ⟨false, 28, .ints .i64 (2 * l1) g1, 0⟩), (3, ⟨false, 28, .ints .i64 (2 * l2) g2, 0⟩)], 4⟩, fun _ => True ∧ fitB l0 = true, fun _ => 0⟩, ⟨Nat, fun _ => ⟨18, [(8, .slcc 0 3), (9, .int .i64 3), (10, .int .i64 2)], [(0, ⟨false, 26, .cells [.slcc 1 l0, .slcc 2 l1, .slcc 3 l2], 0⟩), (1, ⟨false, 28, .ints .i64 (2 * l0) g0, 0⟩), (2, ⟨false, 28, .ints .i64 (2 * l1) g1, 0⟩), (3, ⟨false, 28, .ints .i64 (2 * l2) g2, 0⟩)], 4⟩, fun _ => True ∧ fitB l0 = true ∧ fitB l1 = true, fun _ => 0⟩, ⟨Nat, fun _ => ⟨18, [(8, .slcc 0 3), (9, .int .i64 3), (10, .int .i64 3)], [(0, ⟨false, 26, .cells [.slcc 1 l0, .slcc 2 l1, .slcc 3 l2], 0⟩), (1, ⟨false, 28, .ints .i64 (2 * l0) g0, 0⟩), (2, ⟨false, 28, .ints .i64 (2 * l1) g1, 0⟩), (3, ⟨false, 28, .ints .i64 (2 * l2) g2, 0⟩)], 4⟩, fun _ => True ∧ fitB l0 = true ∧ fitB l1 = true ∧ fitB l2 = true, fun _ => 0⟩])] [] (codeOf Tryz.f78) (init Tryz.f78.ntmps [.slcc 0 3] [(0, ⟨false, 26, .cells [.slcc 1 l0, .slcc 2 l1, .slcc 3 l2], 0⟩), (1, ⟨false, 28, .ints .i64 (2 * l0) g0, 0⟩), (2, ⟨false, 28, .ints .i64 (2 * l1) g1, 0⟩), (3, ⟨false, 28, .ints .i64 (2 * l2) g2, 0⟩)] 4) (endK G0.E.T Tryz.f78.results.toList fun S v => postP 4 ⟨[.slcc 0 3], [(0, ⟨false, 26, .cells [.slcc 1 l0, .slcc 2 l1, .slcc 3 l2], 0⟩), (1, ⟨false, 28, .ints .i64 (2 * l0) g0, 0⟩), (2, ⟨false, 28, .ints .i64 (2 * l1) g1, 0⟩), (3, ⟨false, 28, .ints .i64 (2 * l2) g2, 0⟩)], .bool (true && fitB l0 && fitB l1 && fitB l2), [], [], some (2 * l0 = 2 * l0 ∧ 2 * l1 = 2 * l1 ∧ 2 * l2 = 2 * l2 ∧ True)⟩ S v) = (
(false = true → (true && fitB l0 && fitB l1 && fitB l2) = false ∧ True) ∧ (false = false → (∃ (_ : Nat), True ∧ ((True ∧ 3 = 3) ∧ (3 : Int) = 3 ∧ (0 : Int) = 0 ∧
 True) ∧ True ∧ ((True ∧ l0 = l0) ∧ (True ∧ l1 = l1) ∧ (True ∧ l2 = l2) ∧ True) ∧ True ∧ (2 * l0 ≤ 2 * l0 ∧ ∀ (i : Nat), i < 2 * l0 → g0 i = g0 i) ∧ True ∧ (2 * l1 ≤ 2 * l1 ∧ ∀ (i : Nat), i < 2 * l1 → g1
 i = g1 i) ∧ True ∧ (2 * l2 ≤ 2 * l2 ∧ ∀ (i : Nat), i < 2 * l2 → g2 i = g2 i) ∧ True) ∧ (∀ (_ : Nat), True → (true = true → (((0 : Int) ≤ 0 ∧ (0 : Int) < 3) ∧ True) ∧ (decide (2147483647 < (↑l0 : Int)) =
 true → (true && fitB l0 && fitB l1 && fitB l2) = false ∧ True) ∧ (decide (2147483647 < (↑l0 : Int)) = false → ∃ (_ : Nat), (True ∧ fitB l0 = true) ∧ ((True ∧ 3 =
3) ∧ (3 : Int) = 3 ∧ (1 : Int) = 1 ∧ True) ∧ True ∧ ((True ∧ l0 = l0) ∧ (True ∧ l1 = l1) ∧ (True ∧ l2 = l2) ∧ True) ∧ True ∧ (2 * l0 ≤ 2 * l0 ∧ ∀ (i : Nat), i < 2 * l0 → g0 i = g0 i) ∧ True ∧ (2
* l1 ≤ 2 * l1 ∧ ∀ (i : Nat), i < 2 * l1 → g1 i = g1 i) ∧ True ∧ (2 * l2 ≤ 2 * l2 ∧ ∀ (i : Nat), i < 2 * l2 → g2 i = g2 i) ∧ True)) ∧ (true = false → (true && fitB l0 && fitB
 l1 && fitB l2) = true ∧ True)) ∧ (∀ (_ : Nat), True ∧ fitB l0 = true → (true = true → (((0 : Int) ≤ 1 ∧ (1 : Int) < 3) ∧ True) ∧ (decide (2147483647 < (↑l1 : Int)) = true → (true &&
 fitB l0 && fitB l1 && fitB l2) = false ∧ True) ∧ (decide (2147483647 < (↑l1 : Int)) = false → ∃ (_ : Nat), (True ∧ fitB l0 = true ∧ fitB l1 = true) ∧
((True ∧ 3 = 3) ∧ (3 : Int) = 3 ∧ (2 : Int) = 2 ∧ True) ∧ True ∧ ((True ∧ l0 = l0) ∧ (True ∧ l1 = l1) ∧ (True ∧ l2 = l2) ∧ True) ∧ True ∧ (2 * l0 ≤ 2 * l0 ∧ ∀ (i : Nat), i < 2 * l0 → g0 i = g0
 i) ∧ True ∧ (2 * l1 ≤ 2 * l1 ∧ ∀ (i : Nat), i < 2 * l1 → g1 i = g1 i) ∧ True ∧ (2 * l2 ≤ 2 * l2 ∧ ∀ (i : Nat), i < 2 * l2 → g2 i = g2 i) ∧ True)) ∧ (true = false → (true && fitB l0 &&
 fitB l1 && fitB l2) = true ∧ True)) ∧ (∀ (_ : Nat), True ∧ fitB l0 = true ∧ fitB l1 = true → (true = true → (((0 : Int) ≤ 2 ∧ (2 : Int) < 3) ∧ True) ∧ (decide
(2147483647 < (↑l2 : Int)) = true → (true && fitB l0 && fitB l1 && fitB l2) = false ∧ True) ∧ (decide (2147483647 < (↑l2 : Int)) = false → ∃ (_ : Nat), (True ∧
 fitB l0 = true ∧ fitB l1 = true ∧ fitB l2 = true) ∧ ((True ∧ 3 = 3) ∧ (3 : Int) = 3 ∧ (3 : Int) = 3 ∧ True) ∧ True ∧ ((True ∧ l0 = l0) ∧ (True ∧ l1 = l1) ∧ (True ∧
 l2 = l2) ∧ True) ∧ True ∧ (2 * l0 ≤ 2 * l0 ∧ ∀ (i : Nat), i < 2 * l0 → g0 i = g0 i) ∧ True ∧ (2 * l1 ≤ 2 * l1 ∧ ∀ (i : Nat), i < 2 * l1 → g1 i = g1 i) ∧ True ∧ (2 * l2 ≤ 2 * l2 ∧ ∀ (i :
 Nat), i < 2 * l2 → g2 i = g2 i) ∧ True)) ∧ (true = false → (true && fitB l0 && fitB l1 && fitB l2) = true ∧ True)) ∧ (∀ (_ : Nat), True ∧ fitB l0 = true ∧
 fitB l1 = true ∧ fitB l2 = true → (false = true → (((0 : Int) ≤ 3 ∧ (3 : Int) < 3) ∧ True) ∧ False) ∧ (false = false → (true && fitB l0 && fitB l1 &&
 fitB l2) = true ∧ True)) ∧ True)) := by kernel_rfl
theorem zf3_3 : ConOk Tryz.prog 78 (conR zf3_3C) := by
 refine con_of_vc g0 Tryz.func78 rfl (by kernel_rfl) fun args => ?_
 unfold zf3_3C
 split
 · rename_i h
   intro o0
   show RdM.All _ (match hol3 o0.c with | some (q0, l0, q1, l1, q2, l2) => _ | none => _) _
   split
   · rename_i q0 l0 q1 l1 q2 l2 hm0
     intro o1
     show RdM.All _ (match intsFrom .i64 o1.c with | some (m, g) => _ | none => _) _
     split
     · rename_i m1 g0 hm1
       intro o2
       show RdM.All _ (match intsFrom .i64 o2.c with | some (m, g) => _ | none => _) _
       split
       · rename_i m2 g1 hm2
         intro o3
         show RdM.All _ (match intsFrom .i64 o3.c with | some (m, g) => _ | none => _) _
         split
         · rename_i m3 g2 hm3
           intro ho
           replace ho : m1 = 2 * l0 ∧ m2 = 2 * l1 ∧ m3 = 2 * l2 ∧ True := ho
           obtain ⟨hsz1, hsz2, hsz3, ho⟩ := ho
           subst hsz1
           subst hsz2
           subst hsz3
           refine ⟨?_, _, _, (vc_zf3_3 l0 l1 l2 q0 q1 q2 g0 g1 g2).mpr ?_⟩
           · refine okFlag_mk rfl ⟨?_, ⟨trivial, hol3_spec hm0 (by simp [sgSig, fsts, nth, sameN_self]) (by simp [sgSig, fsts, nth, sameN_self]) (by simp [sgSig, fsts, nth, sameN_self]), ⟨trivial, (contR_ints hm1).1, ⟨trivial, (contR_ints hm2).1, ⟨trivial, (contR_ints hm3).1, trivial⟩⟩⟩⟩⟩
             simp [eqvRL, eqvR, sgSig, fsts, nth, sameN_self]
           · simp [fitB] <;> omega
         · trivial
       · trivial
     · trivial
   · trivial
 · trivial
noncomputable def zf3_4C : List SV → RdM
 | [.slcc h 4] => .read h fun o0 => (match hol4 o0.c with
   | some (q0, l0, q1, l1, q2, l2, q3, l3) => .read q0 fun o1 => (match intsFrom .i64 o1.c with
   | some (m1, g0) => .read q1 fun o2 => (match intsFrom .i64 o2.c with
   | some (m2, g1) => .read q2 fun o3 => (match intsFrom .i64 o3.c with
   | some (m3, g2) => .read q3 fun o4 => (match intsFrom .i64 o4.c with
   | some (m4, g3) => .ret ⟨[.slcc 0 4], [(0, ⟨false, 26, .cells [.slcc 1 l0, .slcc 2 l1, .slcc 3 l2, .slcc 4 l3], 0⟩), (1, ⟨false, 28, .ints .i64 m1 g0, 0⟩), (2, ⟨false, 28, .ints .i64 m2 g1, 0⟩), (3, ⟨false, 28, .ints .i64 m3 g2, 0⟩), (4, ⟨false, 28, .ints .i64 m4 g3, 0⟩)], .bool (true && fitB l0 && fitB l1 && fitB l2 && fitB l3), [], [], some (m1 = 2 * l0 ∧ m2 = 2 * l1 ∧ m3 = 2 * l2 ∧ m4 = 2 * l3 ∧ True)⟩
   | none => .fail)
   | none => .fail)
   | none => .fail)
   | none => .fail)
   | none => .fail)
 | _ => .fail
theorem vc_zf3_4 (l0 l1 l2 l3 : Nat) (_ _ _ _ : Nm)  (g0 : Nat → Int) (g1 : Nat → Int) (g2 : Nat → Int) (g3 : Nat → Int) : runA G0 5 [(4, .unr [⟨Nat, fun _ => ⟨18, [(8, .slcc 0 4), (9, .int .i64 4), (10, .int .i64 0)], [(0, ⟨false, 26, .cells [.slcc 1 l0, .slcc 2 l1, .slcc 3 l2, .slcc 4 l3], 0⟩), (1, ⟨false, 28, .ints .i64 (2 * l0) g0, 0⟩), (2, ⟨false, 28, .ints .i64 (2 * l1) g1, 0⟩), (3, ⟨false, 28, .ints .i64 (2 * l2) g2, 0⟩), (4, ⟨false, 28, .ints .i64 (2 * l3) g3, 0⟩)], 5⟩, fun _ => True, fun _ => 0⟩, ⟨Nat, fun _ => ⟨18, [(8, .slcc 0 4), (9, .int .i64 4), (10, .int .i64 1)], [(0, ⟨false, 26, .cells [.slcc 1 l0, .slcc 2 l1, .slcc 3 l2, .slcc 4 l3], 0⟩), (1, ⟨false, 28, .ints .i64 (2 * l0) g0, 0⟩), (2, ⟨false, 28, .ints .i64 (2 * l1) g1, 0⟩), (3, ⟨false, 28, .ints .i64 (2 * l2) g2, 0⟩), (4, ⟨false, 28, .ints .i64 (2 * l3) g3, 0⟩)], 5⟩, fun _ => True ∧ fitB l0 = true, fun _ => 0⟩, ⟨Nat, fun _ => ⟨18, [(8, .slcc 0 4), (9, .int .i64 4), (10, .int .i64 2)], [(0, ⟨false, 26, .cells [.slcc 1 l0, .slcc 2 l1, .slcc 3 l2, .slcc 4 l3], 0⟩), (1, ⟨false, 28, .ints .i64 (2 * l0) g0, 0⟩), (2, ⟨false, 28, .ints .i64 (2 * l1) g1, 0⟩), (3, ⟨false, 28, .ints .i64 (2 * l2) g2, 0⟩), (4, ⟨false, 28, .ints .i64 (2 * l3) g3, 0⟩)], 5⟩, fun _ => True ∧ fitB l0 = true ∧ fitB l1 = true, fun _ => 0⟩, ⟨Nat, fun _ => ⟨18, [(8, .slcc 0 4), (9, .int .i64 4), (10, .int .i64 3)], [(0, ⟨false, 26, .cells [.slcc 1 l0, .slcc 2 l1, .slcc 3 l2, .slcc 4 l3], 0⟩), (1, ⟨false, 28, .ints .i64 (2 * l0) g0, 0⟩), (2, ⟨false, 28, .ints .i64 (2 * l1) g1, 0⟩), (3, ⟨false, 28, .ints .i64 (2 * l2) g2, 0⟩), (4, ⟨false, 28, .ints .i64 (2 * l3) g3, 0⟩)], 5⟩, fun _ => True ∧ fitB l0 = true ∧ fitB l1 = true ∧ fitB l2 = true, fun _ => 0⟩, ⟨Nat, fun _ => ⟨18, [(8, .slcc 0 4), (9, .int .i64 4), (10, .int .i64 4)], [(0, ⟨false, 26, .cells [.slcc 1 l0, .slcc 2 l1, .slcc 3 l2, .slcc 4 l3], 0⟩), (1, ⟨false, 28, .ints .i64 (2 * l0) g0, 0⟩), (2, ⟨false, 28, .ints .i64 (2 * l1) g1, 0⟩), (3, ⟨false, 28, .ints .i64 (2 * l2) g2, 0⟩), (4, ⟨false, 28, .ints .i64 (2 * l3) g3, 0⟩)], 5⟩, fun _ => True ∧ fitB l0 = true ∧ fitB l1 = true ∧ fitB l2 = true ∧ fitB l3 = true, fun _ => 0⟩])] [] (codeOf Tryz.f78) (init Tryz.f78.ntmps [.slcc 0 4] [(0, ⟨false, 26, .cells [.slcc 1 l0, .slcc 2 l1, .slcc 3 l2, .slcc 4 l3], 0⟩), (1, ⟨false, 28, .ints .i64 (2 * l0) g0, 0⟩), (2, ⟨false, 28, .ints .i64 (2 * l1) g1, 0⟩), (3, ⟨false, 28, .ints .i64 (2 * l2) g2, 0⟩), (4, ⟨false, 28, .ints .i64 (2 * l3) g3, 0⟩)] 5) (endK G0.E.T Tryz.f78.results.toList fun S v => postP 5 ⟨[.slcc 0 4], [(0, ⟨false, 26, .cells [.slcc 1 l0, .slcc 2 l1, .slcc 3 l2, .slcc 4 l3], 0⟩), (1, ⟨false, 28, .ints .i64 (2 * l0) g0, 0⟩), (2, ⟨false, 28, .ints .i64 (2 * l1) g1, 0⟩), (3, ⟨false, 28, .ints .i64 (2 * l2) g2, 0⟩), (4, ⟨false, 28, .ints .i64 (2 * l3) g3, 0⟩)], .bool (true && fitB l0 && fitB l1 && fitB l2 && fitB l3), [], [], some (2 * l0 = 2 * l0 ∧ 2 * l1 = 2 * l1 ∧ 2 * l2 = 2 * l2 ∧ 2 * l3 = 2 * l3 ∧ True)⟩ S v) = (
(false = true → (true && fitB l0 && fitB l1 && fitB l2 && fitB l3) = false ∧ True) ∧ (false = false → (∃ (_ : Nat), True ∧ ((True ∧ 4 = 4) ∧ (4 : Int) = 4
∧ (0 : Int) = 0 ∧ True) ∧ True ∧ ((True ∧ l0 = l0) ∧ (True ∧ l1 = l1) ∧ (True ∧ l2 = l2) ∧ (True ∧ l3 = l3) ∧ True) ∧ True ∧ (2 * l0 ≤ 2 * l0 ∧ ∀ (i : Nat), i < 2 * l0 → g0 i = g0 i) ∧ True ∧ (2 * l1 ≤ 2 * l1 ∧ ∀ (i : Nat), i < 2 * l1 → g1 i = g1 i) ∧ True ∧ (2 * l2 ≤ 2 * l2 ∧ ∀ (i : Nat), i < 2 * l2 → g2 i = g2 i) ∧ True ∧ (2 * l3 ≤ 2 * l3 ∧ ∀ (i : Nat), i < 2 * l3 → g3 i = g3 i) ∧ True) ∧
(∀ (_ : Nat), True → (true = true → (((0 : Int) ≤ 0 ∧ (0 : Int) < 4) ∧ True) ∧ (decide (2147483647 < (↑l0 : Int)) = true → (true && fitB l0 && fitB l1 && fitB l2 &&
 fitB l3) = false ∧ True) ∧ (decide (2147483647 < (↑l0 : Int)) = false → ∃ (_ : Nat), (True ∧ fitB l0 = true) ∧ ((True ∧ 4 = 4) ∧ (4 : Int) = 4 ∧ (1 : Int) = 1 ∧ True) ∧ True
∧ ((True ∧ l0 = l0) ∧ (True ∧ l1 = l1) ∧ (True ∧ l2 = l2) ∧ (True ∧ l3 = l3) ∧ True) ∧ True ∧ (2 * l0 ≤ 2 * l0 ∧ ∀ (i : Nat), i < 2 * l0 → g0 i = g0 i) ∧ True ∧ (2 * l1 ≤ 2 * l1 ∧ ∀ (i : Nat), i < 2 *
 l1 → g1 i = g1 i) ∧ True ∧ (2 * l2 ≤ 2 * l2 ∧ ∀ (i : Nat), i < 2 * l2 → g2 i = g2 i) ∧ True ∧ (2 * l3 ≤ 2 * l3 ∧ ∀ (i : Nat), i < 2 * l3 → g3 i = g3 i) ∧ True)) ∧ (true = false → (true &&
 fitB l0 && fitB l1 && fitB l2 && fitB l3) = true ∧ True)) ∧ (∀ (_ : Nat), True ∧ fitB l0 = true → (true = true → (((0 : Int) ≤ 1 ∧ (1 : Int) < (4 :
 Int)) ∧ True) ∧ (decide (2147483647 < (↑l1 : Int)) = true → (true && fitB l0 && fitB l1 && fitB l2 && fitB l3) = false ∧ True) ∧ (decide (2147483647 < (↑l1 :
 Int)) = false → ∃ (_ : Nat), (True ∧ fitB l0 = true ∧ fitB l1 = true) ∧ ((True ∧ 4 = 4) ∧ (4 : Int) = 4 ∧ (2 : Int) = 2 ∧ True) ∧ True ∧ ((True ∧ l0 = l0) ∧ (True ∧ l1 = l1) ∧ (True
∧ l2 = l2) ∧ (True ∧ l3 = l3) ∧ True) ∧ True ∧ (2 * l0 ≤ 2 * l0 ∧ ∀ (i : Nat), i < 2 * l0 → g0 i = g0 i) ∧ True ∧ (2 * l1 ≤ 2 * l1 ∧ ∀ (i : Nat), i < 2 * l1 → g1 i = g1 i) ∧ True ∧ (2 * l2 ≤ 2 * l2 ∧ ∀ (i : Nat), i < 2 * l2 → g2 i = g2 i) ∧ True ∧ (2 * l3 ≤ 2 * l3 ∧ ∀ (i : Nat), i < 2 * l3 → g3 i = g3 i) ∧ True)) ∧ (true = false → (true && fitB l0 && fitB l1 &&
 fitB l2 && fitB l3) = true ∧ True)) ∧ (∀ (_ : Nat), True ∧ fitB l0 = true ∧ fitB l1 = true → (true = true → (((0 : Int) ≤ 2 ∧ (2 : Int) < 4) ∧ True) ∧ (decide
(2147483647 < (↑l2 : Int)) = true → (true && fitB l0 && fitB l1 && fitB l2 && fitB l3) = false ∧ True) ∧ (decide (2147483647 < (↑l2 : Int)) = false → ∃ (_ : Nat),
(True ∧ fitB l0 = true ∧ fitB l1 = true ∧ fitB l2 = true) ∧ ((True ∧ 4 = 4) ∧ (4 : Int) = 4 ∧ (3 : Int) = 3 ∧ True) ∧ True ∧ ((True ∧ l0 = l0) ∧ (True ∧ l1 = l1) ∧
(True ∧ l2 = l2) ∧ (True ∧ l3 = l3) ∧ True) ∧ True ∧ (2 * l0 ≤ 2 * l0 ∧ ∀ (i : Nat), i < 2 * l0 → g0 i = g0 i) ∧ True ∧ (2 * l1 ≤ 2 * l1 ∧ ∀ (i : Nat), i < 2 * l1 → g1 i = g1 i) ∧ True ∧ (2 * l2
≤ 2 * l2 ∧ ∀ (i : Nat), i < 2 * l2 → g2 i = g2 i) ∧ True ∧ (2 * l3 ≤ 2 * l3 ∧ ∀ (i : Nat), i < 2 * l3 → g3 i = g3 i) ∧ True)) ∧ (true = false → (true && fitB l0 && fitB l1 &&
 fitB l2 && fitB l3) = true ∧ True)) ∧ (∀ (_ : Nat), True ∧ fitB l0 = true ∧ fitB l1 = true ∧ fitB l2 = true → (true = true → (((0 : Int) ≤ 3 ∧ (3 : Int)
< (4 : Int)) ∧ True) ∧ (decide (2147483647 < (↑l3 : Int)) = true → (true && fitB l0 && fitB l1 && fitB l2 && fitB l3) = false ∧ True) ∧ (decide (2147483647 < (↑l3
: Int)) = false → ∃ (_ : Nat), (True ∧ fitB l0 = true ∧ fitB l1 = true ∧ fitB l2 = true ∧ fitB l3 = true) ∧ ((True ∧ 4 = 4) ∧ (4 : Int) = 4 ∧ (4 : Int) =
(4 : Int) ∧ True) ∧ True ∧ ((True ∧ l0 = l0) ∧ (True ∧ l1 = l1) ∧ (True ∧ l2 = l2) ∧ (True ∧ l3 = l3) ∧ True) ∧ True ∧ (2 * l0 ≤ 2 * l0 ∧ ∀ (i : Nat), i < 2 * l0 → g0 i = g0 i) ∧ True ∧ (2 * l1 ≤ 2 * l1 ∧ ∀ (i
: Nat), i < 2 * l1 → g1 i = g1 i) ∧ True ∧ (2 * l2 ≤ 2 * l2 ∧ ∀ (i : Nat), i < 2 * l2 → g2 i = g2 i) ∧ True ∧ (2 * l3 ≤ 2 * l3 ∧ ∀ (i : Nat), i < 2 * l3 → g3 i = g3 i) ∧ True)) ∧ (true = false →
(true && fitB l0 && fitB l1 && fitB l2 && fitB l3) = true ∧ True)) ∧ (∀ (_ : Nat), True ∧ fitB l0 = true ∧ fitB l1 = true ∧
 fitB l2 = true ∧ fitB l3 = true → (false = true → (((0 : Int) ≤ 4 ∧ (4 : Int) < 4) ∧ True) ∧ False) ∧ (false = false → (true && fitB l0 && fitB l1 &&
 fitB l2 && fitB l3) = true ∧ True)) ∧ True)) := by kernel_rfl
theorem zf3_4 : ConOk Tryz.prog 78 (conR zf3_4C) := by
 refine con_of_vc g0 Tryz.func78 rfl (by kernel_rfl) fun args => ?_
 unfold zf3_4C
 split
 · rename_i h
   intro o0
   show RdM.All _ (match hol4 o0.c with | some (q0, l0, q1, l1, q2, l2, q3, l3) => _ | none => _) _
   split
   · rename_i q0 l0 q1 l1 q2 l2 q3 l3 hm0
     intro o1
     show RdM.All _ (match intsFrom .i64 o1.c with | some (m, g) => _ | none => _) _
     split
     · rename_i m1 g0 hm1
       intro o2
       show RdM.All _ (match intsFrom .i64 o2.c with | some (m, g) => _ | none => _) _
       split
       · rename_i m2 g1 hm2
         intro o3
         show RdM.All _ (match intsFrom .i64 o3.c with | some (m, g) => _ | none => _) _
         split
         · rename_i m3 g2 hm3
           intro o4
           show RdM.All _ (match intsFrom .i64 o4.c with | some (m, g) => _ | none => _) _
           split
           · rename_i m4 g3 hm4
             intro ho
             replace ho : m1 = 2 * l0 ∧ m2 = 2 * l1 ∧ m3 = 2 * l2 ∧ m4 = 2 * l3 ∧ True := ho
             obtain ⟨hsz1, hsz2, hsz3, hsz4, ho⟩ := ho
             subst hsz1
             subst hsz2
             subst hsz3
             subst hsz4
             refine ⟨?_, _, _, (vc_zf3_4 l0 l1 l2 l3 q0 q1 q2 q3 g0 g1 g2 g3).mpr ?_⟩
             · refine okFlag_mk rfl ⟨?_, ⟨trivial, hol4_spec hm0 (by simp [sgSig, fsts, nth, sameN_self]) (by simp [sgSig, fsts, nth, sameN_self]) (by simp [sgSig, fsts, nth, sameN_self]) (by simp [sgSig, fsts, nth, sameN_self]), ⟨trivial, (contR_ints hm1).1, ⟨trivial, (contR_ints hm2).1, ⟨trivial, (contR_ints hm3).1, ⟨trivial, (contR_ints hm4).1, trivial⟩⟩⟩⟩⟩⟩
               simp [eqvRL, eqvR, sgSig, fsts, nth, sameN_self]
             · simp [fitB] <;> omega
           · trivial
         · trivial
       · trivial
     · trivial
   · trivial
 · trivial
noncomputable def Gzf : Ctx := ⟨⟨tys, []⟩, [(19, conR isGeoC)]⟩
theorem gzf : CtxOk Tryz.prog Gzf := ⟨⟨tysOk, FlatsOk.nil⟩, GamOk.cons isGeo GamOk.nil, by kernel_rfl⟩
noncomputable def Gzf0 : Ctx := ⟨⟨tys, []⟩, [(78, conR zf3_0C)]⟩
theorem gzf0 : CtxOk Tryz.prog Gzf0 := ⟨⟨tysOk, FlatsOk.nil⟩, GamOk.cons zf3_0 GamOk.nil, by kernel_rfl⟩
noncomputable def zf2_0C : List SV → RdM
 | [.agg [.slcc n len, .slcc h 0]] => .read n fun o0 => (match intsFrom .i64 o0.c with
   | some (m0, g) => .read h fun o1 => (match hol0 o1.c with
   | some _ => .ret ⟨[.agg [.slcc 0 len, .slcc 1 0]], [(0, ⟨false, 28, .ints .i64 m0 g, 0⟩), (1, ⟨false, 26, .cells [], 0⟩)], .bool (fitB len && (true)), [], [], some (m0 = 2 * len ∧ True)⟩
   | none => .fail)
   | none => .fail)
 | _ => .fail
theorem vc_zf2_0 (len : Nat) (_ : Unit)  (g : Nat → Int) : runA Gzf0 2 [] [] (codeOf Tryz.f45) (init Tryz.f45.ntmps [.agg [.slcc 0 len, .slcc 1 0]] [(0, ⟨false, 28, .ints .i64 (2 * len) g, 0⟩), (1, ⟨false, 26, .cells [], 0⟩)] 2) (endK Gzf0.E.T Tryz.f45.results.toList fun S v => postP 2 ⟨[.agg [.slcc 0 len, .slcc 1 0]], [(0, ⟨false, 28, .ints .i64 (2 * len) g, 0⟩), (1, ⟨false, 26, .cells [], 0⟩)], .bool (fitB len && (true)), [], [], some (2 * len = 2 * len ∧ True)⟩ S v) = (
(decide (2147483647 < (↑len : Int)) = true → (fitB len && true) = false ∧ True) ∧ (decide (2147483647 < (↑len : Int)) = false → True ∧ (false = true → (fitB len && true) = false ∧ True) ∧ (false =
 false → (fitB len && true) = true ∧ True))) := by kernel_rfl
theorem zf2_0 : ConOk Tryz.prog 45 (conR zf2_0C) := by
 refine con_of_vc gzf0 Tryz.func45 rfl (by kernel_rfl) fun args => ?_
 unfold zf2_0C
 split
 · rename_i n len h
   intro o0
   show RdM.All _ (match intsFrom .i64 o0.c with | some (m, g) => _ | none => _) _
   split
   · rename_i m0 g hm0
     intro o1
     show RdM.All _ (match hol0 o1.c with | some u => _ | none => _) _
     split
     · rename_i u hm1
       intro ho
       replace ho : m0 = 2 * len ∧ True := ho
       obtain ⟨hsz0, ho⟩ := ho
       subst hsz0
       refine ⟨?_, _, _, (vc_zf2_0 len u g).mpr ?_⟩
       · refine okFlag_mk rfl ⟨?_, ⟨trivial, (contR_ints hm0).1, ⟨trivial, hol0_spec hm1, trivial⟩⟩⟩
         simp [eqvRL, eqvR, sgSig, fsts, nth, sameN_self]
       · simp [fitB] <;> omega
     · trivial
   · trivial
 · trivial
noncomputable def isPo0C : List SV → RdM
 | [.agg [.slcc n len, .slcc h 0]] => .read n fun o0 => (match intsFrom .i64 o0.c with
   | some (m0, g) => .read h fun o1 => (match hol0 o1.c with
   | some _ => .ret ⟨[.agg [.slcc 0 len, .slcc 1 0]], [(0, ⟨false, 28, .ints .i64 m0 g, 0⟩), (1, ⟨false, 26, .cells [], 0⟩)], .bool (isPg 40 len g), [], [], some (m0 = 2 * len ∧ True)⟩
   | none => .fail)
   | none => .fail)
 | _ => .fail
theorem vc_isPo0 (len : Nat) (_ : Unit)  (g : Nat → Int) : runA Gzf 2 [(4, .unr [⟨Nat, fun _ => ⟨37, [(22, .slcc 1 0), (23, .int .i64 0), (24, .int .i64 0)], [(0, ⟨false, 28, .ints .i64 (2 * len) g, 0⟩), (1, ⟨false, 26, .cells [], 0⟩)], 2⟩, fun _ => isPg 40 len g = true, fun _ => 0⟩])] [] (codeOf Tryz.f46) (init Tryz.f46.ntmps [.agg [.slcc 0 len, .slcc 1 0]] [(0, ⟨false, 28, .ints .i64 (2 * len) g, 0⟩), (1, ⟨false, 26, .cells [], 0⟩)] 2) (endK Gzf.E.T Tryz.f46.results.toList fun S v => postP 2 ⟨[.agg [.slcc 0 len, .slcc 1 0]], [(0, ⟨false, 28, .ints .i64 (2 * len) g, 0⟩), (1, ⟨false, 26, .cells [], 0⟩)], .bool (isPg 40 len g), [], [], some (2 * len = 2 * len ∧ True)⟩ S v) = (
(decide (40 < (↑len : Int)) = true → isPg (40 : Int) len g = false ∧ True) ∧ (decide (40 < (↑len : Int)) = false → (false = true → isPg (40 : Int) len g = false ∧ True) ∧ (false = false → (2
* len = 2 * len ∧ len ≤ 1000000) ∧ ((!geoAll (2 * len) g) = true → isPg (40 : Int) len g = false ∧ True) ∧ ((!geoAll (2 * len) g) = false → (∃ (_ : Nat),
 isPg (40 : Int) len g = true ∧ ((True ∧ 0 = 0) ∧ (0 : Int) = 0 ∧ (0 : Int) = 0 ∧ True) ∧ True ∧ (2 * len ≤ 2 * len ∧ ∀ (i : Nat), i < 2 * len → g i = g i) ∧ True ∧ True ∧ True)
∧ (∀ (_ : Nat), isPg (40 : Int) len g = true → (false = true → (((0 : Int) ≤ 0 ∧ (0 : Int) < 0) ∧ 1 ≤ 0) ∧ False) ∧ (false = false → isPg (40 : Int) len g = true ∧ True)) ∧ True)))) := by kernel_rfl
theorem isPo0 : ConOk Tryz.prog 46 (conR isPo0C) := by
 refine con_of_vc gzf Tryz.func46 rfl (by kernel_rfl) fun args => ?_
 unfold isPo0C
 split
 · rename_i n len h
   intro o0
   show RdM.All _ (match intsFrom .i64 o0.c with | some (m, g) => _ | none => _) _
   split
   · rename_i m0 g hm0
     intro o1
     show RdM.All _ (match hol0 o1.c with | some u => _ | none => _) _
     split
     · rename_i u hm1
       intro ho
       replace ho : m0 = 2 * len ∧ True := ho
       obtain ⟨hsz0, ho⟩ := ho
       subst hsz0
       refine ⟨?_, _, _, (vc_isPo0 len u g).mpr ?_⟩
       · refine okFlag_mk rfl ⟨?_, ⟨trivial, (contR_ints hm0).1, ⟨trivial, hol0_spec hm1, trivial⟩⟩⟩
         simp [eqvRL, eqvR, sgSig, fsts, nth, sameN_self]
       · simp only [isPg]
         generalize geoAll (2 * len) g = G
         cases G <;> simp <;> omega
     · trivial
   · trivial
 · trivial
noncomputable def Gzf1 : Ctx := ⟨⟨tys, []⟩, [(78, conR zf3_1C)]⟩
theorem gzf1 : CtxOk Tryz.prog Gzf1 := ⟨⟨tysOk, FlatsOk.nil⟩, GamOk.cons zf3_1 GamOk.nil, by kernel_rfl⟩
noncomputable def zf2_1C : List SV → RdM
 | [.agg [.slcc n len, .slcc h 1]] => .read n fun o0 => (match intsFrom .i64 o0.c with
   | some (m0, g) => .read h fun o1 => (match hol1 o1.c with
   | some (q0, l0) => .read q0 fun o2 => (match intsFrom .i64 o2.c with
   | some (m2, g0) => .ret ⟨[.agg [.slcc 0 len, .slcc 1 1]], [(0, ⟨false, 28, .ints .i64 m0 g, 0⟩), (1, ⟨false, 26, .cells [.slcc 2 l0], 0⟩), (2, ⟨false, 28, .ints .i64 m2 g0, 0⟩)], .bool (fitB len && (true && fitB l0)), [], [], some (m0 = 2 * len ∧ m2 = 2 * l0 ∧ True)⟩
   | none => .fail)
   | none => .fail)
   | none => .fail)
 | _ => .fail
theorem vc_zf2_1 (len : Nat) (l0 : Nat) (_ : Nm)  (g : Nat → Int) (g0 : Nat → Int) : runA Gzf1 3 [] [] (codeOf Tryz.f45) (init Tryz.f45.ntmps [.agg [.slcc 0 len, .slcc 1 1]] [(0, ⟨false, 28, .ints .i64 (2 * len) g, 0⟩), (1, ⟨false, 26, .cells [.slcc 2 l0], 0⟩), (2, ⟨false, 28, .ints .i64 (2 * l0) g0, 0⟩)] 3) (endK Gzf1.E.T Tryz.f45.results.toList fun S v => postP 3 ⟨[.agg [.slcc 0 len, .slcc 1 1]], [(0, ⟨false, 28, .ints .i64 (2 * len) g, 0⟩), (1, ⟨false, 26, .cells [.slcc 2 l0], 0⟩), (2, ⟨false, 28, .ints .i64 (2 * l0) g0, 0⟩)], .bool (fitB len && (true && fitB l0)), [], [], some (2 * len = 2 * len ∧ 2 * l0 = 2 * l0 ∧ True)⟩ S v) = (
(decide (2147483647 < (↑len : Int)) = true → (fitB len && (true && fitB l0)) = false ∧ True) ∧ (decide (2147483647 < (↑len : Int)) = false → (2 * l0 = 2 * l0 ∧ True) ∧ ((!(true &&
 fitB l0)) = true → (fitB len && (true && fitB l0)) = false ∧ True) ∧ ((!(true && fitB l0)) = false → (fitB len && (true && fitB l0)) = true ∧
 True))) := by kernel_rfl
theorem zf2_1 : ConOk Tryz.prog 45 (conR zf2_1C) := by
 refine con_of_vc gzf1 Tryz.func45 rfl (by kernel_rfl) fun args => ?_
 unfold zf2_1C
 split
 · rename_i n len h
   intro o0
   show RdM.All _ (match intsFrom .i64 o0.c with | some (m, g) => _ | none => _) _
   split
   · rename_i m0 g hm0
     intro o1
     show RdM.All _ (match hol1 o1.c with | some (q0, l0) => _ | none => _) _
     split
     · rename_i q0 l0 hm1
       intro o2
       show RdM.All _ (match intsFrom .i64 o2.c with | some (m, g) => _ | none => _) _
       split
       · rename_i m2 g0 hm2
         intro ho
         replace ho : m0 = 2 * len ∧ m2 = 2 * l0 ∧ True := ho
         obtain ⟨hsz0, hsz2, ho⟩ := ho
         subst hsz0
         subst hsz2
         refine ⟨?_, _, _, (vc_zf2_1 len l0 q0 g g0).mpr ?_⟩
         · refine okFlag_mk rfl ⟨?_, ⟨trivial, (contR_ints hm0).1, ⟨trivial, hol1_spec hm1 (by simp [sgSig, fsts, nth, sameN_self]), ⟨trivial, (contR_ints hm2).1, trivial⟩⟩⟩⟩
           simp [eqvRL, eqvR, sgSig, fsts, nth, sameN_self]
         · simp [fitB] <;> omega
       · trivial
     · trivial
   · trivial
 · trivial
noncomputable def isPo1C : List SV → RdM
 | [.agg [.slcc n len, .slcc h 1]] => .read n fun o0 => (match intsFrom .i64 o0.c with
   | some (m0, g) => .read h fun o1 => (match hol1 o1.c with
   | some (q0, l0) => .read q0 fun o2 => (match intsFrom .i64 o2.c with
   | some (m2, g0) => .ret ⟨[.agg [.slcc 0 len, .slcc 1 1]], [(0, ⟨false, 28, .ints .i64 m0 g, 0⟩), (1, ⟨false, 26, .cells [.slcc 2 l0], 0⟩), (2, ⟨false, 28, .ints .i64 m2 g0, 0⟩)], .bool (isPg 40 len g && isPg 20 l0 g0), [], [], some (m0 = 2 * len ∧ m2 = 2 * l0 ∧ True)⟩
   | none => .fail)
   | none => .fail)
   | none => .fail)
 | _ => .fail
theorem vc_isPo1 (len : Nat) (l0 : Nat) (_ : Nm)  (g : Nat → Int) (g0 : Nat → Int) : runA Gzf 3 [(4, .unr [⟨Nat, fun _ => ⟨37, [(22, .slcc 1 1), (23, .int .i64 1), (24, .int .i64 0)], [(0, ⟨false, 28, .ints .i64 (2 * len) g, 0⟩), (1, ⟨false, 26, .cells [.slcc 2 l0], 0⟩), (2, ⟨false, 28, .ints .i64 (2 * l0) g0, 0⟩)], 3⟩, fun _ => isPg 40 len g = true, fun _ => 0⟩, ⟨Nat, fun _ => ⟨37, [(22, .slcc 1 1), (23, .int .i64 1), (24, .int .i64 1)], [(0, ⟨false, 28, .ints .i64 (2 * len) g, 0⟩), (1, ⟨false, 26, .cells [.slcc 2 l0], 0⟩), (2, ⟨false, 28, .ints .i64 (2 * l0) g0, 0⟩)], 3⟩, fun _ => isPg 40 len g = true ∧ isPg 20 l0 g0 = true, fun _ => 0⟩])] [] (codeOf Tryz.f46) (init Tryz.f46.ntmps [.agg [.slcc 0 len, .slcc 1 1]] [(0, ⟨false, 28, .ints .i64 (2 * len) g, 0⟩), (1, ⟨false, 26, .cells [.slcc 2 l0], 0⟩), (2, ⟨false, 28, .ints .i64 (2 * l0) g0, 0⟩)] 3) (endK Gzf.E.T Tryz.f46.results.toList fun S v => postP 3 ⟨[.agg [.slcc 0 len, .slcc 1 1]], [(0, ⟨false, 28, .ints .i64 (2 * len) g, 0⟩), (1, ⟨false, 26, .cells [.slcc 2 l0], 0⟩), (2, ⟨false, 28, .ints .i64 (2 * l0) g0, 0⟩)], .bool (isPg 40 len g && isPg 20 l0 g0), [], [], some (2 * len = 2 * len ∧ 2 * l0 = 2 * l0 ∧ True)⟩ S v) = (
(decide (40 < (↑len : Int)) = true → (isPg (40 : Int) len g && isPg (20 : Int) l0 g0) = false ∧ True) ∧ (decide (40 < (↑len : Int)) = false → (false = true → (isPg (40 : Int) len g
&& isPg (20 : Int) l0 g0) = false ∧ True) ∧ (false = false → (2 * len = 2 * len ∧ len ≤ 1000000) ∧ ((!geoAll (2 * len) g) = true → (isPg (40 : Int) len g &&
 isPg (20 : Int) l0 g0) = false ∧ True) ∧ ((!geoAll (2 * len) g) = false → (∃ (_ : Nat), isPg (40 : Int) len g = true ∧ ((True ∧ 1 = 1) ∧ (1 : Int) = 1 ∧ (0 : Int) =
(0 : Int) ∧ True) ∧ True ∧ (2 * len ≤ 2 * len ∧ ∀ (i : Nat), i < 2 * len → g i = g i) ∧ True ∧ ((True ∧ l0 = l0) ∧ True) ∧ True ∧ (2 * l0 ≤ 2 * l0 ∧ ∀ (i : Nat), i < 2 * l0 → g0 i = g0 i) ∧ True) ∧ (∀
(_ : Nat), isPg (40 : Int) len g = true → (true = true → (((0 : Int) ≤ 0 ∧ (0 : Int) < 1) ∧ True) ∧ (decide (20 < (↑l0 : Int)) = true → (isPg (40 : Int) len g && isPg (20 :
 Int) l0 g0) = false ∧ True) ∧ (decide (20 < (↑l0 : Int)) = false → (2 * l0 = 2 * l0 ∧ l0 ≤ 1000000) ∧ ((!geoAll (2 * l0) g0) = true → (isPg (40 : Int) len g &&
 isPg (20 : Int) l0 g0) = false ∧ True) ∧ ((!geoAll (2 * l0) g0) = false → ∃ (_ : Nat), (isPg (40 : Int) len g = true ∧ isPg (20 : Int) l0 g0 = true) ∧ ((True ∧ 1
= 1) ∧ (1 : Int) = 1 ∧ (1 : Int) = 1 ∧ True) ∧ True ∧ (2 * len ≤ 2 * len ∧ ∀ (i : Nat), i < 2 * len → g i = g i) ∧ True ∧ ((True ∧ l0 = l0) ∧ True) ∧ True ∧ (2 * l0 ≤ 2 * l0 ∧ ∀ (i :
 Nat), i < 2 * l0 → g0 i = g0 i) ∧ True))) ∧ (true = false → (isPg (40 : Int) len g && isPg (20 : Int) l0 g0) = true ∧ True)) ∧ (∀ (_ : Nat), isPg (40 : Int) len g = true ∧
 isPg (20 : Int) l0 g0 = true → (false = true → (((0 : Int) ≤ 1 ∧ (1 : Int) < 1) ∧ True) ∧ False) ∧ (false = false → (isPg (40 : Int) len g && isPg (20 : Int) l0 g0) = true ∧ True))
∧ True)))) := by kernel_rfl
theorem isPo1 : ConOk Tryz.prog 46 (conR isPo1C) := by
 refine con_of_vc gzf Tryz.func46 rfl (by kernel_rfl) fun args => ?_
 unfold isPo1C
 split
 · rename_i n len h
   intro o0
   show RdM.All _ (match intsFrom .i64 o0.c with | some (m, g) => _ | none => _) _
   split
   · rename_i m0 g hm0
     intro o1
     show RdM.All _ (match hol1 o1.c with | some (q0, l0) => _ | none => _) _
     split
     · rename_i q0 l0 hm1
       intro o2
       show RdM.All _ (match intsFrom .i64 o2.c with | some (m, g) => _ | none => _) _
       split
       · rename_i m2 g0 hm2
         intro ho
         replace ho : m0 = 2 * len ∧ m2 = 2 * l0 ∧ True := ho
         obtain ⟨hsz0, hsz2, ho⟩ := ho
         subst hsz0
         subst hsz2
         refine ⟨?_, _, _, (vc_isPo1 len l0 q0 g g0).mpr ?_⟩
         · refine okFlag_mk rfl ⟨?_, ⟨trivial, (contR_ints hm0).1, ⟨trivial, hol1_spec hm1 (by simp [sgSig, fsts, nth, sameN_self]), ⟨trivial, (contR_ints hm2).1, trivial⟩⟩⟩⟩
           simp [eqvRL, eqvR, sgSig, fsts, nth, sameN_self]
         · simp only [isPg]
           generalize geoAll (2 * len) g = G
           generalize geoAll (2 * l0) g0 = G0
           cases G <;> cases G0 <;> simp <;> omega
       · trivial
     · trivial
   · trivial
 · trivial
noncomputable def Gzf2 : Ctx := ⟨⟨tys, []⟩, [(78, conR zf3_2C)]⟩
theorem gzf2 : CtxOk Tryz.prog Gzf2 := ⟨⟨tysOk, FlatsOk.nil⟩, GamOk.cons zf3_2 GamOk.nil, by kernel_rfl⟩
noncomputable def zf2_2C : List SV → RdM
 | [.agg [.slcc n len, .slcc h 2]] => .read n fun o0 => (match intsFrom .i64 o0.c with
   | some (m0, g) => .read h fun o1 => (match hol2 o1.c with
   | some (q0, l0, q1, l1) => .read q0 fun o2 => (match intsFrom .i64 o2.c with
   | some (m2, g0) => .read q1 fun o3 => (match intsFrom .i64 o3.c with
   | some (m3, g1) => .ret ⟨[.agg [.slcc 0 len, .slcc 1 2]], [(0, ⟨false, 28, .ints .i64 m0 g, 0⟩), (1, ⟨false, 26, .cells [.slcc 2 l0, .slcc 3 l1], 0⟩), (2, ⟨false, 28, .ints .i64 m2 g0, 0⟩), (3, ⟨false, 28, .ints .i64 m3 g1, 0⟩)], .bool (fitB len && (true && fitB l0 && fitB l1)), [], [], some (m0 = 2 * len ∧ m2 = 2 * l0 ∧ m3 = 2 * l1 ∧ True)⟩
   | none => .fail)
   | none => .fail)
   | none => .fail)
   | none => .fail)
 | _ => .fail
theorem vc_zf2_2 (len : Nat) (l0 l1 : Nat) (_ _ : Nm)  (g : Nat → Int) (g0 : Nat → Int) (g1 : Nat → Int) : runA Gzf2 4 [] [] (codeOf Tryz.f45) (init Tryz.f45.ntmps [.agg [.slcc 0 len, .slcc 1 2]] [(0, ⟨false, 28, .ints .i64 (2 * len) g, 0⟩), (1, ⟨false, 26, .cells [.slcc 2 l0, .slcc 3 l1], 0⟩), (2, ⟨false, 28, .ints .i64 (2 * l0) g0, 0⟩), (3, ⟨false, 28, .ints .i64 (2 * l1) g1, 0⟩)] 4) (endK Gzf2.E.T Tryz.f45.results.toList fun S v => postP 4 ⟨[.agg [.slcc 0 len, .slcc 1 2]], [(0, ⟨false, 28, .ints .i64 (2 * len) g, 0⟩), (1, ⟨false, 26, .cells [.slcc 2 l0, .slcc 3 l1], 0⟩), (2, ⟨false, 28, .ints .i64 (2 * l0) g0, 0⟩), (3, ⟨false, 28, .ints .i64 (2 * l1) g1, 0⟩)], .bool (fitB len && (true && fitB l0 && fitB l1)), [], [], some (2 * len = 2 * len ∧ 2 * l0 = 2 * l0 ∧ 2 * l1 = 2 * l1 ∧ True)⟩ S v) = (
(decide (2147483647 < (↑len : Int)) = true → (fitB len && (true && fitB l0 && fitB l1)) = false ∧ True) ∧ (decide (2147483647 < (↑len : Int)) = false → (2 * l0 = 2
* l0 ∧ 2 * l1 = 2 * l1 ∧ True) ∧ ((!(true && fitB l0 && fitB l1)) = true → (fitB len && (true && fitB l0 && fitB l1)) = false ∧ True) ∧ ((!(true
&& fitB l0 && fitB l1)) = false → (fitB len && (true && fitB l0 && fitB l1)) = true ∧ True))) := by kernel_rfl
theorem zf2_2 : ConOk Tryz.prog 45 (conR zf2_2C) := by
 refine con_of_vc gzf2 Tryz.func45 rfl (by kernel_rfl) fun args => ?_
 unfold zf2_2C
 split
 · rename_i n len h
   intro o0
   show RdM.All _ (match intsFrom .i64 o0.c with | some (m, g) => _ | none => _) _
   split
   · rename_i m0 g hm0
     intro o1
     show RdM.All _ (match hol2 o1.c with | some (q0, l0, q1, l1) => _ | none => _) _
     split
     · rename_i q0 l0 q1 l1 hm1
       intro o2
       show RdM.All _ (match intsFrom .i64 o2.c with | some (m, g) => _ | none => _) _
       split
       · rename_i m2 g0 hm2
         intro o3
         show RdM.All _ (match intsFrom .i64 o3.c with | some (m, g) => _ | none => _) _
         split
         · rename_i m3 g1 hm3
           intro ho
           replace ho : m0 = 2 * len ∧ m2 = 2 * l0 ∧ m3 = 2 * l1 ∧ True := ho
           obtain ⟨hsz0, hsz2, hsz3, ho⟩ := ho
           subst hsz0
           subst hsz2
           subst hsz3
           refine ⟨?_, _, _, (vc_zf2_2 len l0 l1 q0 q1 g g0 g1).mpr ?_⟩
           · refine okFlag_mk rfl ⟨?_, ⟨trivial, (contR_ints hm0).1, ⟨trivial, hol2_spec hm1 (by simp [sgSig, fsts, nth, sameN_self]) (by simp [sgSig, fsts, nth, sameN_self]), ⟨trivial, (contR_ints hm2).1, ⟨trivial, (contR_ints hm3).1, trivial⟩⟩⟩⟩⟩
             simp [eqvRL, eqvR, sgSig, fsts, nth, sameN_self]
           · simp [fitB] <;> omega
         · trivial
       · trivial
     · trivial
   · trivial
 · trivial
noncomputable def isPo2C : List SV → RdM
 | [.agg [.slcc n len, .slcc h 2]] => .read n fun o0 => (match intsFrom .i64 o0.c with
   | some (m0, g) => .read h fun o1 => (match hol2 o1.c with
   | some (q0, l0, q1, l1) => .read q0 fun o2 => (match intsFrom .i64 o2.c with
   | some (m2, g0) => .read q1 fun o3 => (match intsFrom .i64 o3.c with
   | some (m3, g1) => .ret ⟨[.agg [.slcc 0 len, .slcc 1 2]], [(0, ⟨false, 28, .ints .i64 m0 g, 0⟩), (1, ⟨false, 26, .cells [.slcc 2 l0, .slcc 3 l1], 0⟩), (2, ⟨false, 28, .ints .i64 m2 g0, 0⟩), (3, ⟨false, 28, .ints .i64 m3 g1, 0⟩)], .bool (isPg 40 len g && isPg 20 l0 g0 && isPg 20 l1 g1), [], [], some (m0 = 2 * len ∧ m2 = 2 * l0 ∧ m3 = 2 * l1 ∧ True)⟩
   | none => .fail)
   | none => .fail)
   | none => .fail)
   | none => .fail)
 | _ => .fail
theorem vc_isPo2 (len : Nat) (l0 l1 : Nat) (_ _ : Nm)  (g : Nat → Int) (g0 : Nat → Int) (g1 : Nat → Int) : runA Gzf 4 [(4, .unr [⟨Nat, fun _ => ⟨37, [(22, .slcc 1 2), (23, .int .i64 2), (24, .int .i64 0)], [(0, ⟨false, 28, .ints .i64 (2 * len) g, 0⟩), (1, ⟨false, 26, .cells [.slcc 2 l0, .slcc 3 l1], 0⟩), (2, ⟨false, 28, .ints .i64 (2 * l0) g0, 0⟩), (3, ⟨false, 28, .ints .i64 (2 * l1) g1, 0⟩)], 4⟩, fun _ => isPg 40 len g = true, fun _ => 0⟩, ⟨Nat, fun _ => ⟨37, [(22, .slcc 1 2), (23, .int .i64 2), (24, .int .i64 1)], [(0, ⟨false, 28, .ints .i64 (2 * len) g, 0⟩), (1, ⟨false, 26, .cells [.slcc 2 l0, .slcc 3 l1], 0⟩), (2, ⟨false, 28, .ints .i64 (2 * l0) g0, 0⟩), (3, ⟨false, 28, .ints .i64 (2 * l1) g1, 0⟩)], 4⟩, fun _ => isPg 40 len g = true ∧ isPg 20 l0 g0 = true, fun _ => 0⟩, ⟨Nat, fun _ => ⟨37, [(22, .slcc 1 2), (23, .int .i64 2), (24, .int .i64 2)], [(0, ⟨false, 28, .ints .i64 (2 * len) g, 0⟩), (1, ⟨false, 26, .cells [.slcc 2 l0, .slcc 3 l1], 0⟩), (2, ⟨false, 28, .ints .i64 (2 * l0) g0, 0⟩), (3, ⟨false, 28, .ints .i64 (2 * l1) g1, 0⟩)], 4⟩, fun _ => isPg 40 len g = true ∧ isPg 20 l0 g0 = true ∧ isPg 20 l1 g1 = true, fun _ => 0⟩])] [] (codeOf Tryz.f46) (init Tryz.f46.ntmps [.agg [.slcc 0 len, .slcc 1 2]] [(0, ⟨false, 28, .ints .i64 (2 * len) g, 0⟩), (1, ⟨false, 26, .cells [.slcc 2 l0, .slcc 3 l1], 0⟩), (2, ⟨false, 28, .ints .i64 (2 * l0) g0, 0⟩), (3, ⟨false, 28, .ints .i64 (2 * l1) g1, 0⟩)] 4) (endK Gzf.E.T Tryz.f46.results.toList fun S v => postP 4 ⟨[.agg [.slcc 0 len, .slcc 1 2]], [(0, ⟨false, 28, .ints .i64 (2 * len) g, 0⟩), (1, ⟨false, 26, .cells [.slcc 2 l0, .slcc 3 l1], 0⟩), (2, ⟨false, 28, .ints .i64 (2 * l0) g0, 0⟩), (3, ⟨false, 28, .ints .i64 (2 * l1) g1, 0⟩)], .bool (isPg 40 len g && isPg 20 l0 g0 && isPg 20 l1 g1), [], [], some (2 * len = 2 * len ∧ 2 * l0 = 2 * l0 ∧ 2 * l1 = 2 * l1 ∧ True)⟩ S v) = (
(decide (40 < (↑len : Int)) = true → (isPg (40 : Int) len g && isPg (20 : Int) l0 g0 && isPg (20 : Int) l1 g1) = false ∧ True) ∧ (decide (40 < (↑len : Int)) = false → (false = true
→ (isPg (40 : Int) len g && isPg (20 : Int) l0 g0 && isPg (20 : Int) l1 g1) = false ∧ True) ∧ (false = false → (2 * len = 2 * len ∧ len ≤ 1000000) ∧
((!geoAll (2 * len) g) = true → (isPg (40 : Int) len g && isPg (20 : Int) l0 g0 && isPg (20 : Int) l1 g1) = false ∧ True) ∧ ((!geoAll (2 * len)
 g) = false → (∃ (_ : Nat), isPg (40 : Int) len g = true ∧ ((True ∧ 2 = 2) ∧ (2 : Int) = 2 ∧ (0 : Int) = 0 ∧ True) ∧ True ∧ (2 * len ≤ 2 * len ∧ ∀ (i : Nat), i < 2 * len → g i =
 g i) ∧ True ∧ ((True ∧ l0 = l0) ∧ (True ∧ l1 = l1) ∧ True) ∧ True ∧ (2 * l0 ≤ 2 * l0 ∧ ∀ (i : Nat), i < 2 * l0 → g0 i = g0 i) ∧ True ∧ (2 * l1 ≤ 2 * l1 ∧ ∀ (i : Nat), i < 2 * l1 → g1 i = g1 i) ∧ True) ∧
(∀ (_ : Nat), isPg (40 : Int) len g = true → (true = true → (((0 : Int) ≤ 0 ∧ (0 : Int) < 2) ∧ True) ∧ (decide (20 < (↑l0 : Int)) = true → (isPg (40 : Int) len g && isPg
(20 : Int) l0 g0 && isPg (20 : Int) l1 g1) = false ∧ True) ∧ (decide (20 < (↑l0 : Int)) = false → (2 * l0 = 2 * l0 ∧ l0 ≤ 1000000) ∧ ((!geoAll (2 * l0) g0) = true →
(isPg (40 : Int) len g && isPg (20 : Int) l0 g0 && isPg (20 : Int) l1 g1) = false ∧ True) ∧ ((!geoAll (2 * l0) g0) = false → ∃ (_ : Nat), (isPg (40 :
 Int) len g = true ∧ isPg (20 : Int) l0 g0 = true) ∧ ((True ∧ 2 = 2) ∧ (2 : Int) = 2 ∧ (1 : Int) = 1 ∧ True) ∧ True ∧ (2 * len ≤ 2 * len ∧ ∀ (i : Nat), i < 2 * len → g i = g i)
∧ True ∧ ((True ∧ l0 = l0) ∧ (True ∧ l1 = l1) ∧ True) ∧ True ∧ (2 * l0 ≤ 2 * l0 ∧ ∀ (i : Nat), i < 2 * l0 → g0 i = g0 i) ∧ True ∧ (2 * l1 ≤ 2 * l1 ∧ ∀ (i : Nat), i < 2 * l1 → g1 i = g1 i) ∧ True))) ∧
(true = false → (isPg (40 : Int) len g && isPg (20 : Int) l0 g0 && isPg (20 : Int) l1 g1) = true ∧ True)) ∧ (∀ (_ : Nat), isPg (40 : Int) len g = true ∧ isPg
(20 : Int) l0 g0 = true → (true = true → (((0 : Int) ≤ 1 ∧ (1 : Int) < 2) ∧ True) ∧ (decide (20 < (↑l1 : Int)) = true → (isPg (40 : Int) len g && isPg (20 : Int) l0 g0 &&
 isPg (20 : Int) l1 g1) = false ∧ True) ∧ (decide (20 < (↑l1 : Int)) = false → (2 * l1 = 2 * l1 ∧ l1 ≤ 1000000) ∧ ((!geoAll (2 * l1) g1) = true → (isPg (40 :
 Int) len g && isPg (20 : Int) l0 g0 && isPg (20 : Int) l1 g1) = false ∧ True) ∧ ((!geoAll (2 * l1) g1) = false → ∃ (_ : Nat), (isPg (40 : Int) len g = true ∧
 isPg (20 : Int) l0 g0 = true ∧ isPg (20 : Int) l1 g1 = true) ∧ ((True ∧ 2 = 2) ∧ (2 : Int) = 2 ∧ (2 : Int) = 2 ∧ True) ∧ True ∧ (2 * len ≤ 2 * len ∧ ∀ (i : Nat), i <
2 * len → g i = g i) ∧ True ∧ ((True ∧ l0 = l0) ∧ (True ∧ l1 = l1) ∧ True) ∧ True ∧ (2 * l0 ≤ 2 * l0 ∧ ∀ (i : Nat), i < 2 * l0 → g0 i = g0 i) ∧ True ∧ (2 * l1 ≤ 2 * l1 ∧ ∀ (i : Nat), i < 2 * l1
→ g1 i = g1 i) ∧ True))) ∧ (true = false → (isPg (40 : Int) len g && isPg (20 : Int) l0 g0 && isPg (20 : Int) l1 g1) = true ∧ True)) ∧ (∀ (_ : Nat), isPg (40 : Int) len g = true
∧ isPg (20 : Int) l0 g0 = true ∧ isPg (20 : Int) l1 g1 = true → (false = true → (((0 : Int) ≤ 2 ∧ (2 : Int) < 2) ∧ True) ∧ False) ∧ (false = false → (isPg (40 : Int) len g &&
 isPg (20 : Int) l0 g0 && isPg (20 : Int) l1 g1) = true ∧ True)) ∧ True)))) := by kernel_rfl
theorem isPo2 : ConOk Tryz.prog 46 (conR isPo2C) := by
 refine con_of_vc gzf Tryz.func46 rfl (by kernel_rfl) fun args => ?_
 unfold isPo2C
 split
 · rename_i n len h
   intro o0
   show RdM.All _ (match intsFrom .i64 o0.c with | some (m, g) => _ | none => _) _
   split
   · rename_i m0 g hm0
     intro o1
     show RdM.All _ (match hol2 o1.c with | some (q0, l0, q1, l1) => _ | none => _) _
     split
     · rename_i q0 l0 q1 l1 hm1
       intro o2
       show RdM.All _ (match intsFrom .i64 o2.c with | some (m, g) => _ | none => _) _
       split
       · rename_i m2 g0 hm2
         intro o3
         show RdM.All _ (match intsFrom .i64 o3.c with | some (m, g) => _ | none => _) _
         split
         · rename_i m3 g1 hm3
           intro ho
           replace ho : m0 = 2 * len ∧ m2 = 2 * l0 ∧ m3 = 2 * l1 ∧ True := ho
           obtain ⟨hsz0, hsz2, hsz3, ho⟩ := ho
           subst hsz0
           subst hsz2
           subst hsz3
           refine ⟨?_, _, _, (vc_isPo2 len l0 l1 q0 q1 g g0 g1).mpr ?_⟩
           · refine okFlag_mk rfl ⟨?_, ⟨trivial, (contR_ints hm0).1, ⟨trivial, hol2_spec hm1 (by simp [sgSig, fsts, nth, sameN_self]) (by simp [sgSig, fsts, nth, sameN_self]), ⟨trivial, (contR_ints hm2).1, ⟨trivial, (contR_ints hm3).1, trivial⟩⟩⟩⟩⟩
             simp [eqvRL, eqvR, sgSig, fsts, nth, sameN_self]
           · simp only [isPg]
             generalize geoAll (2 * len) g = G
             generalize geoAll (2 * l0) g0 = G0
             generalize geoAll (2 * l1) g1 = G1
             cases G <;> cases G0 <;> cases G1 <;> simp <;> omega
         · trivial
       · trivial
     · trivial
   · trivial
 · trivial
noncomputable def Gzf3 : Ctx := ⟨⟨tys, []⟩, [(78, conR zf3_3C)]⟩
theorem gzf3 : CtxOk Tryz.prog Gzf3 := ⟨⟨tysOk, FlatsOk.nil⟩, GamOk.cons zf3_3 GamOk.nil, by kernel_rfl⟩
noncomputable def zf2_3C : List SV → RdM
 | [.agg [.slcc n len, .slcc h 3]] => .read n fun o0 => (match intsFrom .i64 o0.c with
   | some (m0, g) => .read h fun o1 => (match hol3 o1.c with
   | some (q0, l0, q1, l1, q2, l2) => .read q0 fun o2 => (match intsFrom .i64 o2.c with
   | some (m2, g0) => .read q1 fun o3 => (match intsFrom .i64 o3.c with
   | some (m3, g1) => .read q2 fun o4 => (match intsFrom .i64 o4.c with
   | some (m4, g2) => .ret ⟨[.agg [.slcc 0 len, .slcc 1 3]], [(0, ⟨false, 28, .ints .i64 m0 g, 0⟩), (1, ⟨false, 26, .cells [.slcc 2 l0, .slcc 3 l1, .slcc 4 l2], 0⟩), (2, ⟨false, 28, .ints .i64 m2 g0, 0⟩), (3, ⟨false, 28, .ints .i64 m3 g1, 0⟩), (4, ⟨false, 28, .ints .i64 m4 g2, 0⟩)], .bool (fitB len && (true && fitB l0 && fitB l1 && fitB l2)), [], [], some (m0 = 2 * len ∧ m2 = 2 * l0 ∧ m3 = 2 * l1 ∧ m4 = 2 * l2 ∧ True)⟩
   | none => .fail)
   | none => .fail)
   | none => .fail)
   | none => .fail)
   | none => .fail)
 | _ => .fail
theorem vc_zf2_3 (len : Nat) (l0 l1 l2 : Nat) (_ _ _ : Nm)  (g : Nat → Int) (g0 : Nat → Int) (g1 : Nat → Int) (g2 : Nat → Int) : runA Gzf3 5 [] [] (codeOf Tryz.f45) (init Tryz.f45.ntmps [.agg [.slcc 0 len, .slcc 1 3]] [(0, ⟨false, 28, .ints .i64 (2 * len) g, 0⟩), (1, ⟨false, 26, .cells [.slcc 2 l0, .slcc 3 l1, .slcc 4 l2], 0⟩), (2, ⟨false, 28, .ints .i64 (2 * l0) g0, 0⟩), (3, ⟨false, 28, .ints .i64 (2 * l1) g1, 0⟩), (4, ⟨false, 28, .ints .i64 (2 * l2) g2, 0⟩)] 5) (endK Gzf3.E.T Tryz.f45.results.toList fun S v => postP 5 ⟨[.agg [.slcc 0 len, .slcc 1 3]], [(0, ⟨false, 28, .ints .i64 (2 * len) g, 0⟩), (1, ⟨false, 26, .cells [.slcc 2 l0, .slcc 3 l1, .slcc 4 l2], 0⟩), (2, ⟨false, 28, .ints .i64 (2 * l0) g0, 0⟩), (3, ⟨false, 28, .ints .i64 (2 * l1) g1, 0⟩), (4, ⟨false, 28, .ints .i64 (2 * l2) g2, 0⟩)], .bool (fitB len && (true && fitB l0 && fitB l1 && fitB l2)), [], [], some (2 * len = 2 * len ∧ 2 * l0 = 2 * l0 ∧ 2 * l1 = 2 * l1 ∧ 2 * l2 = 2 * l2 ∧ True)⟩ S v) = (
(decide (2147483647 < (↑len : Int)) = true → (fitB len && (true && fitB l0 && fitB l1 && fitB l2)) = false ∧ True) ∧ (decide (2147483647 < (↑len : Int)) = false →
(2 * l0 = 2 * l0 ∧ 2 * l1 = 2 * l1 ∧ 2 * l2 = 2 * l2 ∧ True) ∧ ((!(true && fitB l0 && fitB l1 && fitB l2)) = true → (fitB len &&
(true && fitB l0 && fitB l1 && fitB l2)) = false ∧ True) ∧ ((!(true && fitB l0 && fitB l1 && fitB l2)) = false → (fitB len
&& (true && fitB l0 && fitB l1 && fitB l2)) = true ∧ True))) := by kernel_rfl
theorem zf2_3 : ConOk Tryz.prog 45 (conR zf2_3C) := by
 refine con_of_vc gzf3 Tryz.func45 rfl (by kernel_rfl) fun args => ?_
 unfold zf2_3C
 split
 · rename_i n len h
   intro o0
   show RdM.All _ (match intsFrom .i64 o0.c with | some (m, g) => _ | none => _) _
   split
   · rename_i m0 g hm0
     intro o1
     show RdM.All _ (match hol3 o1.c with | some (q0, l0, q1, l1, q2, l2) => _ | none => _) _
     split
     · rename_i q0 l0 q1 l1 q2 l2 hm1
       intro o2
       show RdM.All _ (match intsFrom .i64 o2.c with | some (m, g) => _ | none => _) _
       split
       · rename_i m2 g0 hm2
         intro o3
         show RdM.All _ (match intsFrom .i64 o3.c with | some (m, g) => _ | none => _) _
         split
         · rename_i m3 g1 hm3
           intro o4
           show RdM.All _ (match intsFrom .i64 o4.c with | some (m, g) => _ | none => _) _
           split
           · rename_i m4 g2 hm4
             intro ho
             replace ho : m0 = 2 * len ∧ m2 = 2 * l0 ∧ m3 = 2 * l1 ∧ m4 = 2 * l2 ∧ True := ho
             obtain ⟨hsz0, hsz2, hsz3, hsz4, ho⟩ := ho
             subst hsz0
             subst hsz2
             subst hsz3
             subst hsz4
             refine ⟨?_, _, _, (vc_zf2_3 len l0 l1 l2 q0 q1 q2 g g0 g1 g2).mpr ?_⟩
             · refine okFlag_mk rfl ⟨?_, ⟨trivial, (contR_ints hm0).1, ⟨trivial, hol3_spec hm1 (by simp [sgSig, fsts, nth, sameN_self]) (by simp [sgSig, fsts, nth, sameN_self]) (by simp [sgSig, fsts, nth, sameN_self]), ⟨trivial, (contR_ints hm2).1, ⟨trivial, (contR_ints hm3).1, ⟨trivial, (contR_ints hm4).1, trivial⟩⟩⟩⟩⟩⟩
               simp [eqvRL, eqvR, sgSig, fsts, nth, sameN_self]
             · simp [fitB] <;> omega
           · trivial
         · trivial
       · trivial
     · trivial
   · trivial
 · trivial
noncomputable def isPo3C : List SV → RdM
 | [.agg [.slcc n len, .slcc h 3]] => .read n fun o0 => (match intsFrom .i64 o0.c with
   | some (m0, g) => .read h fun o1 => (match hol3 o1.c with
   | some (q0, l0, q1, l1, q2, l2) => .read q0 fun o2 => (match intsFrom .i64 o2.c with
   | some (m2, g0) => .read q1 fun o3 => (match intsFrom .i64 o3.c with
   | some (m3, g1) => .read q2 fun o4 => (match intsFrom .i64 o4.c with
   | some (m4, g2) => .ret ⟨[.agg [.slcc 0 len, .slcc 1 3]], [(0, ⟨false, 28, .ints .i64 m0 g, 0⟩), (1, ⟨false, 26, .cells [.slcc 2 l0, .slcc 3 l1, .slcc 4 l2], 0⟩), (2, ⟨false, 28, .ints .i64 m2 g0, 0⟩), (3, ⟨false, 28, .ints .i64 m3 g1, 0⟩), (4, ⟨false, 28, .ints .i64 m4 g2, 0⟩)], .bool (isPg 40 len g && isPg 20 l0 g0 && isPg 20 l1 g1 && isPg 20 l2 g2), [], [], some (m0 = 2 * len ∧ m2 = 2 * l0 ∧ m3 = 2 * l1 ∧ m4 = 2 * l2 ∧ True)⟩
   | none => .fail)
   | none => .fail)
   | none => .fail)
   | none => .fail)
   | none => .fail)
 | _ => .fail
theorem vc_isPo3 (len : Nat) (l0 l1 l2 : Nat) (_ _ _ : Nm)  (g : Nat → Int) (g0 : Nat → Int) (g1 : Nat → Int) (g2 : Nat → Int) : runA Gzf 5 [(4, .unr [⟨Nat, fun _ => ⟨37, [(22, .slcc 1 3), (23, .int .i64 3), (24, .int .i64 0)], [(0, ⟨false, 28, .ints .i64 (2 * len) g, 0⟩), (1, ⟨false, 26, .cells [.slcc 2 l0, .slcc 3 l1, .slcc 4 l2], 0⟩), (2, ⟨false, 28, .ints .i64 (2 * l0) g0, 0⟩), (3, ⟨false, 28, .ints .i64 (2 * l1) g1, 0⟩), (4, ⟨false, 28, .ints .i64 (2 * l2) g2, 0⟩)], 5⟩, fun _ => isPg 40 len g = true, fun _ => 0⟩, ⟨Nat, fun _ => ⟨37, [(22, .slcc 1 3), (23, .int .i64 3), (24, .int .i64 1)], [(0, ⟨false, 28, .ints .i64 (2 * len) g, 0⟩), (1, ⟨false, 26, .cells [.slcc 2 l0, .slcc 3 l1, .slcc 4 l2], 0⟩), (2, ⟨false, 28, .ints .i64 (2 * l0) g0, 0⟩), (3, ⟨false, 28, .ints .i64 (2 * l1) g1, 0⟩), (4, ⟨false, 28, .ints .i64 (2 * l2) g2, 0⟩)], 5⟩, fun _ => isPg 40 len g = true ∧ isPg 20 l0 g0 = true, fun _ => 0⟩, ⟨Nat, fun _ => ⟨37, [(22, .slcc 1 3), (23, .int .i64 3), (24, .int .i64 2)], [(0, ⟨false, 28, .ints .i64 (2 * len) g, 0⟩), (1, ⟨false, 26, .cells [.slcc 2 l0, .slcc 3 l1, .slcc 4 l2], 0⟩), (2, ⟨false, 28, .ints .i64 (2 * l0) g0, 0⟩), (3, ⟨false, 28, .ints .i64 (2 * l1) g1, 0⟩), (4, ⟨false, 28, .ints .i64 (2 * l2) g2, 0⟩)], 5⟩, fun _ => isPg 40 len g = true ∧ isPg 20 l0 g0 = true ∧ isPg 20 l1 g1 = true, fun _ => 0⟩, ⟨Nat, fun _ => ⟨37, [(22, .slcc 1 3), (23, .int .i64 3), (24, .int .i64 3)], [(0, ⟨false, 28, .ints .i64 (2 * len) g, 0⟩), (1, ⟨false, 26, .cells [.slcc 2 l0, .slcc 3 l1, .slcc 4 l2], 0⟩), (2, ⟨false, 28, .ints .i64 (2 * l0) g0, 0⟩), (3, ⟨false, 28, .ints .i64 (2 * l1) g1, 0⟩), (4, ⟨false, 28, .ints .i64 (2 * l2) g2, 0⟩)], 5⟩, fun _ => isPg 40 len g = true ∧ isPg 20 l0 g0 = true ∧ isPg 20 l1 g1 = true ∧ isPg 20 l2 g2 = true, fun _ => 0⟩])] [] (codeOf Tryz.f46) (init Tryz.f46.ntmps [.agg [.slcc 0 len, .slcc 1 3]] [(0, ⟨false, 28, .ints .i64 (2 * len) g, 0⟩), (1, ⟨false, 26, .cells [.slcc 2 l0, .slcc 3 l1, .slcc 4 l2], 0⟩), (2, ⟨false, 28, .ints .i64 (2 * l0) g0, 0⟩), (3, ⟨false, 28, .ints .i64 (2 * l1) g1, 0⟩), (4, ⟨false, 28, .ints .i64 (2 * l2) g2, 0⟩)] 5) (endK Gzf.E.T Tryz.f46.results.toList fun S v => postP 5 ⟨[.agg [.slcc 0 len, .slcc 1 3]], [(0, ⟨false, 28, .ints .i64 (2 * len) g, 0⟩), (1, ⟨false, 26, .cells [.slcc 2 l0, .slcc 3 l1, .slcc 4 l2], 0⟩), (2, ⟨false, 28, .ints .i64 (2 * l0) g0, 0⟩), (3, ⟨false, 28, .ints .i64 (2 * l1) g1, 0⟩), (4, ⟨false, 28, .ints .i64 (2 * l2) g2, 0⟩)], .bool (isPg 40 len g && isPg 20 l0 g0 && isPg 20 l1 g1 && isPg 20 l2 g2), [], [], some (2 * len = 2 * len ∧ 2 * l0 = 2 * l0 ∧ 2 * l1 = 2 * l1 ∧ 2 * l2 = 2 * l2 ∧ True)⟩ S v) = (
(decide (40 < (↑len : Int)) = true → (isPg (40 : Int) len g && isPg (20 : Int) l0 g0 && isPg (20 : Int) l1 g1 && isPg (20 : Int) l2 g2) = false ∧ True) ∧ (decide ((40 :
 Int) < (↑len : Int)) = false → (false = true → (isPg (40 : Int) len g && isPg (20 : Int) l0 g0 && isPg (20 : Int) l1 g1 && isPg (20 : Int) l2 g2) = false ∧ True) ∧ (false = false
→ (2 * len = 2 * len ∧ len ≤ 1000000) ∧ ((!geoAll (2 * len) g) = true → (isPg (40 : Int) len g && isPg (20 : Int) l0 g0 && isPg (20 : Int) l1 g1
&& isPg (20 : Int) l2 g2) = false ∧ True) ∧ ((!geoAll (2 * len) g) = false → (∃ (_ : Nat), isPg (40 : Int) len g = true ∧ ((True ∧ 3 = 3) ∧ (3 : Int) = 3 ∧ (0 :
 Int) = (0 : Int) ∧ True) ∧ True ∧ (2 * len ≤ 2 * len ∧ ∀ (i : Nat), i < 2 * len → g i = g i) ∧ True ∧ ((True ∧ l0 = l0) ∧ (True ∧ l1 = l1) ∧ (True ∧ l2 = l2) ∧ True) ∧ True ∧ (2 * l0 ≤ 2 * l0 ∧ ∀ (i : Nat), i <
2 * l0 → g0 i = g0 i) ∧ True ∧ (2 * l1 ≤ 2 * l1 ∧ ∀ (i : Nat), i < 2 * l1 → g1 i = g1 i) ∧ True ∧ (2 * l2 ≤ 2 * l2 ∧ ∀ (i : Nat), i < 2 * l2 → g2 i = g2 i) ∧ True) ∧ (∀ (_ : Nat),
 isPg (40 : Int) len g = true → (true = true → (((0 : Int) ≤ 0 ∧ (0 : Int) < 3) ∧ True) ∧ (decide (20 < (↑l0 : Int)) = true → (isPg (40 : Int) len g && isPg (20 : Int) l0 g0
&& isPg (20 : Int) l1 g1 && isPg (20 : Int) l2 g2) = false ∧ True) ∧ (decide (20 < (↑l0 : Int)) = false → (2 * l0 = 2 * l0 ∧ l0 ≤ 1000000) ∧ ((!geoAll (2 *
 l0) g0) = true → (isPg (40 : Int) len g && isPg (20 : Int) l0 g0 && isPg (20 : Int) l1 g1 && isPg (20 : Int) l2 g2) = false ∧ True) ∧ ((!geoAll (2 * l0)
 g0) = false → ∃ (_ : Nat), (isPg (40 : Int) len g = true ∧ isPg (20 : Int) l0 g0 = true) ∧ ((True ∧ 3 = 3) ∧ (3 : Int) = 3 ∧ (1 : Int) = 1 ∧ True) ∧ True ∧ (2 * len ≤ 2 * len ∧ ∀ (i : Nat), i < 2 * len → g i = g i) ∧ True ∧ ((True ∧ l0 = l0) ∧ (True ∧ l1 = l1) ∧ (True ∧ l2 = l2) ∧ True) ∧ True ∧ (2 * l0 ≤ 2 * l0 ∧ ∀ (i : Nat), i < 2 * l0 → g0 i = g0 i) ∧ True ∧ (2 * l1 ≤
2 * l1 ∧ ∀ (i : Nat), i < 2 * l1 → g1 i = g1 i) ∧ True ∧ (2 * l2 ≤ 2 * l2 ∧ ∀ (i : Nat), i < 2 * l2 → g2 i = g2 i) ∧ True))) ∧ (true = false → (isPg (40 : Int) len g && isPg
(20 : Int) l0 g0 && isPg (20 : Int) l1 g1 && isPg (20 : Int) l2 g2) = true ∧ True)) ∧ (∀ (_ : Nat), isPg (40 : Int) len g = true ∧ isPg (20 : Int) l0 g0 = true → (true = true →
(((0 : Int) ≤ 1 ∧ (1 : Int) < 3) ∧ True) ∧ (decide (20 < (↑l1 : Int)) = true → (isPg (40 : Int) len g && isPg (20 : Int) l0 g0 && isPg (20 : Int) l1 g1 &&
 isPg (20 : Int) l2 g2) = false ∧ True) ∧ (decide (20 < (↑l1 : Int)) = false → (2 * l1 = 2 * l1 ∧ l1 ≤ 1000000) ∧ ((!geoAll (2 * l1) g1) = true → (isPg (40 :
 Int) len g && isPg (20 : Int) l0 g0 && isPg (20 : Int) l1 g1 && isPg (20 : Int) l2 g2) = false ∧ True) ∧ ((!geoAll (2 * l1) g1) = false → ∃ (_ : Nat),
(isPg (40 : Int) len g = true ∧ isPg (20 : Int) l0 g0 = true ∧ isPg (20 : Int) l1 g1 = true) ∧ ((True ∧ 3 = 3) ∧ (3 : Int) = 3 ∧ (2 : Int) = 2 ∧ True) ∧ True ∧ (2 * len ≤ 2 * len ∧ ∀ (i : Nat), i < 2 * len → g i = g i) ∧ True ∧ ((True ∧ l0 = l0) ∧ (True ∧ l1 = l1) ∧ (True ∧ l2 = l2) ∧ True) ∧ True ∧ (2 * l0 ≤ 2 * l0 ∧ ∀ (i : Nat), i < 2 * l0 → g0 i = g0 i) ∧ True
∧ (2 * l1 ≤ 2 * l1 ∧ ∀ (i : Nat), i < 2 * l1 → g1 i = g1 i) ∧ True ∧ (2 * l2 ≤ 2 * l2 ∧ ∀ (i : Nat), i < 2 * l2 → g2 i = g2 i) ∧ True))) ∧ (true = false → (isPg (40 : Int) len g &&
 isPg (20 : Int) l0 g0 && isPg (20 : Int) l1 g1 && isPg (20 : Int) l2 g2) = true ∧ True)) ∧ (∀ (_ : Nat), isPg (40 : Int) len g = true ∧ isPg (20 : Int) l0 g0 =
 true ∧ isPg (20 : Int) l1 g1 = true → (true = true → (((0 : Int) ≤ 2 ∧ (2 : Int) < 3) ∧ True) ∧ (decide (20 < (↑l2 : Int)) = true → (isPg (40 : Int) len g && isPg (20 :
 Int) l0 g0 && isPg (20 : Int) l1 g1 && isPg (20 : Int) l2 g2) = false ∧ True) ∧ (decide (20 < (↑l2 : Int)) = false → (2 * l2 = 2 * l2 ∧ l2 ≤ 1000000) ∧ ((!geoAll
(2 * l2) g2) = true → (isPg (40 : Int) len g && isPg (20 : Int) l0 g0 && isPg (20 : Int) l1 g1 && isPg (20 : Int) l2 g2) = false ∧ True) ∧ ((!geoAll (2 * l2) g2) = false → ∃ (_ : Nat), (isPg (40 : Int) len g = true ∧ isPg (20 : Int) l0 g0 = true ∧ isPg (20 : Int) l1 g1 = true ∧ isPg (20 : Int) l2 g2 = true) ∧ ((True ∧ 3 = 3) ∧ (3 : Int) = 3 ∧ (3 : Int) = 3 ∧ True) ∧ True ∧ (2 * len ≤ 2 * len ∧ ∀ (i : Nat), i < 2 * len → g i = g i) ∧ True ∧ ((True ∧ l0 = l0) ∧ (True ∧ l1 = l1) ∧ (True ∧ l2 = l2) ∧ True) ∧ True ∧
(2 * l0 ≤ 2 * l0 ∧ ∀ (i : Nat), i < 2 * l0 → g0 i = g0 i) ∧ True ∧ (2 * l1 ≤ 2 * l1 ∧ ∀ (i : Nat), i < 2 * l1 → g1 i = g1 i) ∧ True ∧ (2 * l2 ≤ 2 * l2 ∧ ∀ (i : Nat), i < 2 * l2 →
 g2 i = g2 i) ∧ True))) ∧ (true = false → (isPg (40 : Int) len g && isPg (20 : Int) l0 g0 && isPg (20 : Int) l1 g1 && isPg (20 : Int) l2 g2) = true ∧ True)) ∧ (∀ (_ : Nat),
 isPg (40 : Int) len g = true ∧ isPg (20 : Int) l0 g0 = true ∧ isPg (20 : Int) l1 g1 = true ∧ isPg (20 : Int) l2 g2 = true → (false = true → (((0 : Int) ≤ 3 ∧ (3 : Int) <
(3 : Int)) ∧ True) ∧ False) ∧ (false = false → (isPg (40 : Int) len g && isPg (20 : Int) l0 g0 && isPg (20 : Int) l1 g1 && isPg (20 : Int) l2 g2) = true ∧ True)) ∧ True)))) := by kernel_rfl
theorem isPo3 : ConOk Tryz.prog 46 (conR isPo3C) := by
 refine con_of_vc gzf Tryz.func46 rfl (by kernel_rfl) fun args => ?_
 unfold isPo3C
 split
 · rename_i n len h
   intro o0
   show RdM.All _ (match intsFrom .i64 o0.c with | some (m, g) => _ | none => _) _
   split
   · rename_i m0 g hm0
     intro o1
     show RdM.All _ (match hol3 o1.c with | some (q0, l0, q1, l1, q2, l2) => _ | none => _) _
     split
     · rename_i q0 l0 q1 l1 q2 l2 hm1
       intro o2
       show RdM.All _ (match intsFrom .i64 o2.c with | some (m, g) => _ | none => _) _
       split
       · rename_i m2 g0 hm2
         intro o3
         show RdM.All _ (match intsFrom .i64 o3.c with | some (m, g) => _ | none => _) _
         split
         · rename_i m3 g1 hm3
           intro o4
           show RdM.All _ (match intsFrom .i64 o4.c with | some (m, g) => _ | none => _) _
           split
           · rename_i m4 g2 hm4
             intro ho
             replace ho : m0 = 2 * len ∧ m2 = 2 * l0 ∧ m3 = 2 * l1 ∧ m4 = 2 * l2 ∧ True := ho
             obtain ⟨hsz0, hsz2, hsz3, hsz4, ho⟩ := ho
             subst hsz0
             subst hsz2
             subst hsz3
             subst hsz4
             refine ⟨?_, _, _, (vc_isPo3 len l0 l1 l2 q0 q1 q2 g g0 g1 g2).mpr ?_⟩
             · refine okFlag_mk rfl ⟨?_, ⟨trivial, (contR_ints hm0).1, ⟨trivial, hol3_spec hm1 (by simp [sgSig, fsts, nth, sameN_self]) (by simp [sgSig, fsts, nth, sameN_self]) (by simp [sgSig, fsts, nth, sameN_self]), ⟨trivial, (contR_ints hm2).1, ⟨trivial, (contR_ints hm3).1, ⟨trivial, (contR_ints hm4).1, trivial⟩⟩⟩⟩⟩⟩
               simp [eqvRL, eqvR, sgSig, fsts, nth, sameN_self]
             · simp only [isPg]
               generalize geoAll (2 * len) g = G
               generalize geoAll (2 * l0) g0 = G0
               generalize geoAll (2 * l1) g1 = G1
               generalize geoAll (2 * l2) g2 = G2
               cases G <;> cases G0 <;> cases G1 <;> cases G2 <;> simp <;> omega
           · trivial
         · trivial
       · trivial
     · trivial
   · trivial
 · trivial
noncomputable def Gzf4 : Ctx := ⟨⟨tys, []⟩, [(78, conR zf3_4C)]⟩
theorem gzf4 : CtxOk Tryz.prog Gzf4 := ⟨⟨tysOk, FlatsOk.nil⟩, GamOk.cons zf3_4 GamOk.nil, by kernel_rfl⟩
noncomputable def zf2_4C : List SV → RdM
 | [.agg [.slcc n len, .slcc h 4]] => .read n fun o0 => (match intsFrom .i64 o0.c with
   | some (m0, g) => .read h fun o1 => (match hol4 o1.c with
   | some (q0, l0, q1, l1, q2, l2, q3, l3) => .read q0 fun o2 => (match intsFrom .i64 o2.c with
   | some (m2, g0) => .read q1 fun o3 => (match intsFrom .i64 o3.c with
   | some (m3, g1) => .read q2 fun o4 => (match intsFrom .i64 o4.c with
   | some (m4, g2) => .read q3 fun o5 => (match intsFrom .i64 o5.c with
   | some (m5, g3) => .ret ⟨[.agg [.slcc 0 len, .slcc 1 4]], [(0, ⟨false, 28, .ints .i64 m0 g, 0⟩), (1, ⟨false, 26, .cells [.slcc 2 l0, .slcc 3 l1, .slcc 4 l2, .slcc 5 l3], 0⟩), (2, ⟨false, 28, .ints .i64 m2 g0, 0⟩), (3, ⟨false, 28, .ints .i64 m3 g1, 0⟩), (4, ⟨false, 28, .ints .i64 m4 g2, 0⟩), (5, ⟨false, 28, .ints .i64 m5 g3, 0⟩)], .bool (fitB len && (true && fitB l0 && fitB l1 && fitB l2 && fitB l3)), [], [], some (m0 = 2 * len ∧ m2 = 2 * l0 ∧ m3 = 2 * l1 ∧ m4 = 2 * l2 ∧ m5 = 2 * l3 ∧ True)⟩
   | none => .fail)
   | none => .fail)
   | none => .fail)
   | none => .fail)
   | none => .fail)
   | none => .fail)
 | _ => .fail
theorem vc_zf2_4 (len : Nat) (l0 l1 l2 l3 : Nat) (_ _ _ _ : Nm)  (g : Nat → Int) (g0 : Nat → Int) (g1 : Nat → Int) (g2 : Nat → Int) (g3 : Nat → Int) : runA Gzf4 6 [] [] (codeOf Tryz.f45) (init Tryz.f45.ntmps [.agg [.slcc 0 len, .slcc 1 4]] [(0, ⟨false, 28, .ints .i64 (2 * len) g, 0⟩), (1, ⟨false, 26, .cells [.slcc 2 l0, .slcc 3 l1, .slcc 4 l2, .slcc 5 l3], 0⟩), (2, ⟨false, 28, .ints .i64 (2 * l0) g0, 0⟩), (3, ⟨false, 28, .ints .i64 (2 * l1) g1, 0⟩), (4, ⟨false, 28, .ints .i64 (2 * l2) g2, 0⟩), (5, ⟨false, 28, .ints .i64 (2 * l3) g3, 0⟩)] 6) (endK Gzf4.E.T Tryz.f45.results.toList fun S v => postP 6 ⟨[.agg [.slcc 0 len, .slcc 1 4]], [(0, ⟨false, 28, .ints .i64 (2 * len) g, 0⟩), (1, ⟨false, 26, .cells [.slcc 2 l0, .slcc 3 l1, .slcc 4 l2, .slcc 5 l3], 0⟩), (2, ⟨false, 28, .ints .i64 (2 * l0) g0, 0⟩), (3, ⟨false, 28, .ints .i64 (2 * l1) g1, 0⟩), (4, ⟨false, 28, .ints .i64 (2 * l2) g2, 0⟩), (5, ⟨false, 28, .ints .i64 (2 * l3) g3, 0⟩)], .bool (fitB len && (true && fitB l0 && fitB l1 && fitB l2 && fitB l3)), [], [], some (2 * len = 2 * len ∧ 2 * l0 = 2 * l0 ∧ 2 * l1 = 2 * l1 ∧ 2 * l2 = 2 * l2 ∧ 2 * l3 = 2 * l3 ∧ True)⟩ S v) = (
(decide (2147483647 < (↑len : Int)) = true → (fitB len && (true && fitB l0 && fitB l1 && fitB l2 && fitB l3)) = false ∧ True) ∧ (decide ((2147483647 :
 Int) < (↑len : Int)) = false → (2 * l0 = 2 * l0 ∧ 2 * l1 = 2 * l1 ∧ 2 * l2 = 2 * l2 ∧ 2 * l3 = 2 * l3 ∧ True) ∧ ((!(true && fitB l0 && fitB l1 &&
 fitB l2 && fitB l3)) = true → (fitB len && (true && fitB l0 && fitB l1 && fitB l2 && fitB l3)) = false ∧ True) ∧ ((!(true &&
 fitB l0 && fitB l1 && fitB l2 && fitB l3)) = false → (fitB len && (true && fitB l0 && fitB l1 && fitB l2
&& fitB l3)) = true ∧ True))) := by kernel_rfl
theorem zf2_4 : ConOk Tryz.prog 45 (conR zf2_4C) := by
 refine con_of_vc gzf4 Tryz.func45 rfl (by kernel_rfl) fun args => ?_
 unfold zf2_4C
 split
 · rename_i n len h
   intro o0
   show RdM.All _ (match intsFrom .i64 o0.c with | some (m, g) => _ | none => _) _
   split
   · rename_i m0 g hm0
     intro o1
     show RdM.All _ (match hol4 o1.c with | some (q0, l0, q1, l1, q2, l2, q3, l3) => _ | none => _) _
     split
     · rename_i q0 l0 q1 l1 q2 l2 q3 l3 hm1
       intro o2
       show RdM.All _ (match intsFrom .i64 o2.c with | some (m, g) => _ | none => _) _
       split
       · rename_i m2 g0 hm2
         intro o3
         show RdM.All _ (match intsFrom .i64 o3.c with | some (m, g) => _ | none => _) _
         split
         · rename_i m3 g1 hm3
           intro o4
           show RdM.All _ (match intsFrom .i64 o4.c with | some (m, g) => _ | none => _) _
           split
           · rename_i m4 g2 hm4
             intro o5
             show RdM.All _ (match intsFrom .i64 o5.c with | some (m, g) => _ | none => _) _
             split
             · rename_i m5 g3 hm5
               intro ho
               replace ho : m0 = 2 * len ∧ m2 = 2 * l0 ∧ m3 = 2 * l1 ∧ m4 = 2 * l2 ∧ m5 = 2 * l3 ∧ True := ho
               obtain ⟨hsz0, hsz2, hsz3, hsz4, hsz5, ho⟩ := ho
               subst hsz0
               subst hsz2
               subst hsz3
               subst hsz4
               subst hsz5
               refine ⟨?_, _, _, (vc_zf2_4 len l0 l1 l2 l3 q0 q1 q2 q3 g g0 g1 g2 g3).mpr ?_⟩
               · refine okFlag_mk rfl ⟨?_, ⟨trivial, (contR_ints hm0).1, ⟨trivial, hol4_spec hm1 (by simp [sgSig, fsts, nth, sameN_self]) (by simp [sgSig, fsts, nth, sameN_self]) (by simp [sgSig, fsts, nth, sameN_self]) (by simp [sgSig, fsts, nth, sameN_self]), ⟨trivial, (contR_ints hm2).1, ⟨trivial, (contR_ints hm3).1, ⟨trivial, (contR_ints hm4).1, ⟨trivial, (contR_ints hm5).1, trivial⟩⟩⟩⟩⟩⟩⟩
                 simp [eqvRL, eqvR, sgSig, fsts, nth, sameN_self]
               · simp [fitB] <;> omega
             · trivial
           · trivial
         · trivial
       · trivial
     · trivial
   · trivial
 · trivial
noncomputable def isPo4C : List SV → RdM
 | [.agg [.slcc n len, .slcc h 4]] => .read n fun o0 => (match intsFrom .i64 o0.c with
   | some (m0, g) => .read h fun o1 => (match hol4 o1.c with
   | some (q0, l0, q1, l1, q2, l2, q3, l3) => .read q0 fun o2 => (match intsFrom .i64 o2.c with
   | some (m2, g0) => .read q1 fun o3 => (match intsFrom .i64 o3.c with
   | some (m3, g1) => .read q2 fun o4 => (match intsFrom .i64 o4.c with
   | some (m4, g2) => .read q3 fun o5 => (match intsFrom .i64 o5.c with
   | some (m5, g3) => .ret ⟨[.agg [.slcc 0 len, .slcc 1 4]], [(0, ⟨false, 28, .ints .i64 m0 g, 0⟩), (1, ⟨false, 26, .cells [.slcc 2 l0, .slcc 3 l1, .slcc 4 l2, .slcc 5 l3], 0⟩), (2, ⟨false, 28, .ints .i64 m2 g0, 0⟩), (3, ⟨false, 28, .ints .i64 m3 g1, 0⟩), (4, ⟨false, 28, .ints .i64 m4 g2, 0⟩), (5, ⟨false, 28, .ints .i64 m5 g3, 0⟩)], .bool (isPg 40 len g && isPg 20 l0 g0 && isPg 20 l1 g1 && isPg 20 l2 g2 && isPg 20 l3 g3), [], [], some (m0 = 2 * len ∧ m2 = 2 * l0 ∧ m3 = 2 * l1 ∧ m4 = 2 * l2 ∧ m5 = 2 * l3 ∧ True)⟩
   | none => .fail)
   | none => .fail)
   | none => .fail)
   | none => .fail)
   | none => .fail)
   | none => .fail)
 | _ => .fail
theorem vc_isPo4 (len : Nat) (l0 l1 l2 l3 : Nat) (_ _ _ _ : Nm)  (g : Nat → Int) (g0 : Nat → Int) (g1 : Nat → Int) (g2 : Nat → Int) (g3 : Nat → Int) : runA Gzf 6 [(4, .unr [⟨Nat, fun _ => ⟨37, [(22, .slcc 1 4), (23, .int .i64 4), (24, .int .i64 0)], [(0, ⟨false, 28, .ints .i64 (2 * len) g, 0⟩), (1, ⟨false, 26, .cells [.slcc 2 l0, .slcc 3 l1, .slcc 4 l2, .slcc 5 l3], 0⟩), (2, ⟨false, 28, .ints .i64 (2 * l0) g0, 0⟩), (3, ⟨false, 28, .ints .i64 (2 * l1) g1, 0⟩), (4, ⟨false, 28, .ints .i64 (2 * l2) g2, 0⟩), (5, ⟨false, 28, .ints .i64 (2 * l3) g3, 0⟩)], 6⟩, fun _ => isPg 40 len g = true, fun _ => 0⟩, ⟨Nat, fun _ => ⟨37, [(22, .slcc 1 4), (23, .int .i64 4), (24, .int .i64 1)], [(0, ⟨false, 28, .ints .i64 (2 * len) g, 0⟩), (1, ⟨false, 26, .cells [.slcc 2 l0, .slcc 3 l1, .slcc 4 l2, .slcc 5 l3], 0⟩), (2, ⟨false, 28, .ints .i64 (2 * l0) g0, 0⟩), (3, ⟨false, 28, .ints .i64 (2 * l1) g1, 0⟩), (4, ⟨false, 28, .ints .i64 (2 * l2) g2, 0⟩), (5, ⟨false, 28, .ints .i64 (2 * l3) g3, 0⟩)], 6⟩, fun _ => isPg 40 len g = true ∧ isPg 20 l0 g0 = true, fun _ => 0⟩, ⟨Nat, fun _ => ⟨37, [(22, .slcc 1 4), (23, .int .i64 4), (24, .int .i64 2)], [(0, ⟨false, 28, .ints .i64 (2 * len) g, 0⟩), (1, ⟨false, 26, .cells [.slcc 2 l0, .slcc 3 l1, .slcc 4 l2, .slcc 5 l3], 0⟩), (2, ⟨false, 28, .ints .i64 (2 * l0) g0, 0⟩), (3, ⟨false, 28, .ints .i64 (2 * l1) g1, 0⟩), (4, ⟨false, 28, .ints .i64 (2 * l2) g2, 0⟩), (5, ⟨false, 28, .ints .i64 (2 * l3) g3, 0⟩)], 6⟩, fun _ => isPg 40 len g = true ∧ isPg 20 l0 g0 = true ∧ isPg 20 l1 g1 = true, fun _ => 0⟩, ⟨Nat, fun _ => ⟨37, [(22, .slcc 1 4), (23, .int .i64 4), (24, .int .i64 3)], [(0, ⟨false, 28, .ints .i64 (2 * len) g, 0⟩), (1, ⟨false, 26, .cells [.slcc 2 l0, .slcc 3 l1, .slcc 4 l2, .slcc 5 l3], 0⟩), (2, ⟨false, 28, .ints .i64 (2 * l0) g0, 0⟩), (3, ⟨false, 28, .ints .i64 (2 * l1) g1, 0⟩), (4, ⟨false, 28, .ints .i64 (2 * l2) g2, 0⟩), (5, ⟨false, 28, .ints .i64 (2 * l3) g3, 0⟩)], 6⟩, fun _ => isPg 40 len g = true ∧ isPg 20 l0 g0 = true ∧ isPg 20 l1 g1 = true ∧ isPg 20 l2 g2 = true, fun _ => 0⟩, ⟨Nat, fun _ => ⟨37, [(22, .slcc 1 4), (23, .int .i64 4), (24, .int .i64 4)], [(0, ⟨false, 28, .ints .i64 (2 * len) g, 0⟩), (1, ⟨false, 26, .cells [.slcc 2 l0, .slcc 3 l1, .slcc 4 l2, .slcc 5 l3], 0⟩), (2, ⟨false, 28, .ints .i64 (2 * l0) g0, 0⟩), (3, ⟨false, 28, .ints .i64 (2 * l1) g1, 0⟩), (4, ⟨false, 28, .ints .i64 (2 * l2) g2, 0⟩), (5, ⟨false, 28, .ints .i64 (2 * l3) g3, 0⟩)], 6⟩, fun _ => isPg 40 len g = true ∧ isPg 20 l0 g0 = true ∧ isPg 20 l1 g1 = true ∧ isPg 20 l2 g2 = true ∧ isPg 20 l3 g3 = true, fun _ => 0⟩])] [] (codeOf Tryz.f46) (init Tryz.f46.ntmps [.agg [.slcc 0 len, .slcc 1 4]] [(0, ⟨false, 28, .ints .i64 (2 * len) g, 0⟩), (1, ⟨false, 26, .cells [.slcc 2 l0, .slcc 3 l1, .slcc 4 l2, .slcc 5 l3], 0⟩), (2, ⟨false, 28, .ints .i64 (2 * l0) g0, 0⟩), (3, ⟨false, 28, .ints .i64 (2 * l1) g1, 0⟩), (4, ⟨false, 28, .ints .i64 (2 * l2) g2, 0⟩), (5, ⟨false, 28, .ints .i64 (2 * l3) g3, 0⟩)] 6) (endK Gzf.E.T Tryz.f46.results.toList fun S v => postP 6 ⟨[.agg [.slcc 0 len, .slcc 1 4]], [(0, ⟨false, 28, .ints .i64 (2 * len) g, 0⟩), (1, ⟨false, 26, .cells [.slcc 2 l0, .slcc 3 l1, .slcc 4 l2, .slcc 5 l3], 0⟩), (2, ⟨false, 28, .ints .i64 (2 * l0) g0, 0⟩), (3, ⟨false, 28, .ints .i64 (2 * l1) g1, 0⟩), (4, ⟨false, 28, .ints .i64 (2 * l2) g2, 0⟩), (5, ⟨false, 28, .ints .i64 (2 * l3) g3, 0⟩)], .bool (isPg 40 len g && isPg 20 l0 g0 && isPg 20 l1 g1 && isPg 20 l2 g2 && isPg 20 l3 g3), [], [], some (2 * len = 2 * len ∧ 2 * l0 = 2 * l0 ∧ 2 * l1 = 2 * l1 ∧ 2 * l2 = 2 * l2 ∧ 2 * l3 = 2 * l3 ∧ True)⟩ S v) = (
(decide (40 < (↑len : Int)) = true → (isPg (40 : Int) len g && isPg (20 : Int) l0 g0 && isPg (20 : Int) l1 g1 && isPg (20 : Int) l2 g2 && isPg (20 :
 Int) l3 g3) = false ∧ True) ∧ (decide (40 < (↑len : Int)) = false → (false = true → (isPg (40 : Int) len g && isPg (20 : Int) l0 g0 && isPg (20 : Int) l1 g1 && isPg (20 :
 Int) l2 g2 && isPg (20 : Int) l3 g3) = false ∧ True) ∧ (false = false → (2 * len = 2 * len ∧ len ≤ 1000000) ∧ ((!geoAll (2 * len) g) = true → (isPg (40 : Int) len g
&& isPg (20 : Int) l0 g0 && isPg (20 : Int) l1 g1 && isPg (20 : Int) l2 g2 && isPg (20 : Int) l3 g3) = false ∧ True) ∧ ((!geoAll (2 * len) g) = false →
(∃ (_ : Nat), isPg (40 : Int) len g = true ∧ ((True ∧ 4 = 4) ∧ (4 : Int) = 4 ∧ (0 : Int) = 0 ∧ True) ∧ True ∧ (2 * len ≤ 2 * len ∧ ∀ (i : Nat), i < 2 * len → g i = g i) ∧ True
∧ ((True ∧ l0 = l0) ∧ (True ∧ l1 = l1) ∧ (True ∧ l2 = l2) ∧ (True ∧ l3 = l3) ∧ True) ∧ True ∧ (2 * l0 ≤ 2 * l0 ∧ ∀ (i : Nat), i < 2 * l0 → g0 i = g0 i) ∧ True ∧ (2 * l1 ≤ 2 * l1 ∧ ∀ (i : Nat), i < 2 *
 l1 → g1 i = g1 i) ∧ True ∧ (2 * l2 ≤ 2 * l2 ∧ ∀ (i : Nat), i < 2 * l2 → g2 i = g2 i) ∧ True ∧ (2 * l3 ≤ 2 * l3 ∧ ∀ (i : Nat), i < 2 * l3 → g3 i = g3 i) ∧ True) ∧ (∀ (_ : Nat), isPg (40
: Int) len g = true → (true = true → (((0 : Int) ≤ 0 ∧ (0 : Int) < 4) ∧ True) ∧ (decide (20 < (↑l0 : Int)) = true → (isPg (40 : Int) len g && isPg (20 : Int) l0 g0 && isPg
(20 : Int) l1 g1 && isPg (20 : Int) l2 g2 && isPg (20 : Int) l3 g3) = false ∧ True) ∧ (decide (20 < (↑l0 : Int)) = false → (2 * l0 = 2 * l0 ∧ l0 ≤ 1000000) ∧
((!geoAll (2 * l0) g0) = true → (isPg (40 : Int) len g && isPg (20 : Int) l0 g0 && isPg (20 : Int) l1 g1 && isPg (20 : Int) l2 g2 &&
 isPg (20 : Int) l3 g3) = false ∧ True) ∧ ((!geoAll (2 * l0) g0) = false → ∃ (_ : Nat), (isPg (40 : Int) len g = true ∧ isPg (20 : Int) l0 g0 = true) ∧ ((True ∧ 4
= 4) ∧ (4 : Int) = 4 ∧ (1 : Int) = 1 ∧ True) ∧ True ∧ (2 * len ≤ 2 * len ∧ ∀ (i : Nat), i < 2 * len → g i = g i) ∧ True ∧ ((True ∧ l0 = l0) ∧ (True ∧ l1 = l1) ∧ (True ∧ l2 = l2) ∧ (True ∧ l3 = l3) ∧
 True) ∧ True ∧ (2 * l0 ≤ 2 * l0 ∧ ∀ (i : Nat), i < 2 * l0 → g0 i = g0 i) ∧ True ∧ (2 * l1 ≤ 2 * l1 ∧ ∀ (i : Nat), i < 2 * l1 → g1 i = g1 i) ∧ True ∧ (2 * l2 ≤ 2 * l2 ∧ ∀ (i : Nat), i <
2 * l2 → g2 i = g2 i) ∧ True ∧ (2 * l3 ≤ 2 * l3 ∧ ∀ (i : Nat), i < 2 * l3 → g3 i = g3 i) ∧ True))) ∧ (true = false → (isPg (40 : Int) len g && isPg (20 : Int) l0 g0 &&
 isPg (20 : Int) l1 g1 && isPg (20 : Int) l2 g2 && isPg (20 : Int) l3 g3) = true ∧ True)) ∧ (∀ (_ : Nat), isPg (40 : Int) len g = true ∧ isPg (20 : Int) l0 g0 =
 true → (true = true → (((0 : Int) ≤ 1 ∧ (1 : Int) < 4) ∧ True) ∧ (decide (20 < (↑l1 : Int)) = true → (isPg (40 : Int) len g && isPg (20 : Int) l0 g0 && isPg (20 : Int) l1
 g1 && isPg (20 : Int) l2 g2 && isPg (20 : Int) l3 g3) = false ∧ True) ∧ (decide (20 < (↑l1 : Int)) = false → (2 * l1 = 2 * l1 ∧ l1 ≤ 1000000) ∧ ((!geoAll (2
* l1) g1) = true → (isPg (40 : Int) len g && isPg (20 : Int) l0 g0 && isPg (20 : Int) l1 g1 && isPg (20 : Int) l2 g2 && isPg (20 : Int) l3 g3) = false ∧ True) ∧
((!geoAll (2 * l1) g1) = false → ∃ (_ : Nat), (isPg (40 : Int) len g = true ∧ isPg (20 : Int) l0 g0 = true ∧ isPg (20 : Int) l1 g1 = true) ∧ ((True ∧ 4 = 4) ∧ (4 : Int) = 4 ∧ (2 : Int) = 2 ∧ True) ∧ True ∧ (2 * len ≤ 2 * len ∧ ∀ (i : Nat), i < 2 * len → g i = g i) ∧ True ∧ ((True ∧ l0 = l0) ∧ (True ∧ l1 = l1) ∧ (True ∧ l2 = l2) ∧ (True ∧ l3 = l3) ∧ True) ∧
 True ∧ (2 * l0 ≤ 2 * l0 ∧ ∀ (i : Nat), i < 2 * l0 → g0 i = g0 i) ∧ True ∧ (2 * l1 ≤ 2 * l1 ∧ ∀ (i : Nat), i < 2 * l1 → g1 i = g1 i) ∧ True ∧ (2 * l2 ≤ 2 * l2 ∧ ∀ (i : Nat), i < 2
* l2 → g2 i = g2 i) ∧ True ∧ (2 * l3 ≤ 2 * l3 ∧ ∀ (i : Nat), i < 2 * l3 → g3 i = g3 i) ∧ True))) ∧ (true = false → (isPg (40 : Int) len g && isPg (20 : Int) l0 g0 && isPg
(20 : Int) l1 g1 && isPg (20 : Int) l2 g2 && isPg (20 : Int) l3 g3) = true ∧ True)) ∧ (∀ (_ : Nat), isPg (40 : Int) len g = true ∧ isPg (20 : Int) l0 g0 = true ∧
 isPg (20 : Int) l1 g1 = true → (true = true → (((0 : Int) ≤ 2 ∧ (2 : Int) < 4) ∧ True) ∧ (decide (20 < (↑l2 : Int)) = true → (isPg (40 : Int) len g && isPg (20 : Int) l0 g0
&& isPg (20 : Int) l1 g1 && isPg (20 : Int) l2 g2 && isPg (20 : Int) l3 g3) = false ∧ True) ∧ (decide (20 < (↑l2 : Int)) = false → (2 * l2 = 2 * l2 ∧ l2 ≤ 1000000)
∧ ((!geoAll (2 * l2) g2) = true → (isPg (40 : Int) len g && isPg (20 : Int) l0 g0 && isPg (20 : Int) l1 g1 && isPg (20 : Int) l2 g2 &&
 isPg (20 : Int) l3 g3) = false ∧ True) ∧ ((!geoAll (2 * l2) g2) = false → ∃ (_ : Nat), (isPg (40 : Int) len g = true ∧ isPg (20 : Int) l0 g0 = true ∧
 isPg (20 : Int) l1 g1 = true ∧ isPg (20 : Int) l2 g2 = true) ∧ ((True ∧ 4 = 4) ∧ (4 : Int) = 4 ∧ (3 : Int) = 3 ∧ True) ∧ True ∧ (2 * len ≤ 2 * len ∧ ∀ (i : Nat), i <
2 * len → g i = g i) ∧ True ∧ ((True ∧ l0 = l0) ∧ (True ∧ l1 = l1) ∧ (True ∧ l2 = l2) ∧ (True ∧ l3 = l3) ∧ True) ∧ True ∧ (2 * l0 ≤ 2 * l0 ∧ ∀ (i : Nat), i < 2 * l0 → g0 i = g0 i) ∧ True ∧ (2 * l1 ≤ 2 *
 l1 ∧ ∀ (i : Nat), i < 2 * l1 → g1 i = g1 i) ∧ True ∧ (2 * l2 ≤ 2 * l2 ∧ ∀ (i : Nat), i < 2 * l2 → g2 i = g2 i) ∧ True ∧ (2 * l3 ≤ 2 * l3 ∧ ∀ (i : Nat), i < 2 * l3 → g3 i = g3 i) ∧ True))) ∧
(true = false → (isPg (40 : Int) len g && isPg (20 : Int) l0 g0 && isPg (20 : Int) l1 g1 && isPg (20 : Int) l2 g2 && isPg (20 : Int) l3 g3) = true ∧ True)) ∧ (∀
(_ : Nat), isPg (40 : Int) len g = true ∧ isPg (20 : Int) l0 g0 = true ∧ isPg (20 : Int) l1 g1 = true ∧ isPg (20 : Int) l2 g2 = true → (true = true → (((0 : Int) ≤ 3 ∧ (3
: Int) < 4) ∧ True) ∧ (decide (20 < (↑l3 : Int)) = true → (isPg (40 : Int) len g && isPg (20 : Int) l0 g0 && isPg (20 : Int) l1 g1 && isPg (20 : Int) l2 g2 &&
 isPg (20 : Int) l3 g3) = false ∧ True) ∧ (decide (20 < (↑l3 : Int)) = false → (2 * l3 = 2 * l3 ∧ l3 ≤ 1000000) ∧ ((!geoAll (2 * l3) g3) = true → (isPg (40 :
 Int) len g && isPg (20 : Int) l0 g0 && isPg (20 : Int) l1 g1 && isPg (20 : Int) l2 g2 && isPg (20 : Int) l3 g3) = false ∧ True) ∧ ((!geoAll (2 * l3) g3)
= false → ∃ (_ : Nat), (isPg (40 : Int) len g = true ∧ isPg (20 : Int) l0 g0 = true ∧ isPg (20 : Int) l1 g1 = true ∧ isPg (20 : Int) l2 g2 = true ∧ isPg (20 :
 Int) l3 g3 = true) ∧ ((True ∧ 4 = 4) ∧ (4 : Int) = 4 ∧ (4 : Int) = 4 ∧ True) ∧ True ∧ (2 * len ≤ 2 * len ∧ ∀ (i : Nat), i < 2 * len → g i = g i) ∧ True ∧ ((True ∧ l0 = l0) ∧ (True ∧ l1 = l1) ∧
(True ∧ l2 = l2) ∧ (True ∧ l3 = l3) ∧ True) ∧ True ∧ (2 * l0 ≤ 2 * l0 ∧ ∀ (i : Nat), i < 2 * l0 → g0 i = g0 i) ∧ True ∧ (2 * l1 ≤ 2 * l1 ∧ ∀ (i : Nat), i < 2 * l1 → g1 i = g1 i) ∧ True ∧ (2 * l2
≤ 2 * l2 ∧ ∀ (i : Nat), i < 2 * l2 → g2 i = g2 i) ∧ True ∧ (2 * l3 ≤ 2 * l3 ∧ ∀ (i : Nat), i < 2 * l3 → g3 i = g3 i) ∧ True))) ∧ (true = false → (isPg (40 : Int) len g &&
 isPg (20 : Int) l0 g0 && isPg (20 : Int) l1 g1 && isPg (20 : Int) l2 g2 && isPg (20 : Int) l3 g3) = true ∧ True)) ∧ (∀ (_ : Nat), isPg (40 : Int) len g = true ∧
 isPg (20 : Int) l0 g0 = true ∧ isPg (20 : Int) l1 g1 = true ∧ isPg (20 : Int) l2 g2 = true ∧ isPg (20 : Int) l3 g3 = true → (false = true → (((0 : Int) ≤ 4 ∧ (4 : Int) <
(4 : Int)) ∧ True) ∧ False) ∧ (false = false → (isPg (40 : Int) len g && isPg (20 : Int) l0 g0 && isPg (20 : Int) l1 g1 && isPg (20 : Int) l2 g2 && isPg (20 :
 Int) l3 g3) = true ∧ True)) ∧ True)))) := by kernel_rfl
theorem isPo4 : ConOk Tryz.prog 46 (conR isPo4C) := by
 refine con_of_vc gzf Tryz.func46 rfl (by kernel_rfl) fun args => ?_
 unfold isPo4C
 split
 · rename_i n len h
   intro o0
   show RdM.All _ (match intsFrom .i64 o0.c with | some (m, g) => _ | none => _) _
   split
   · rename_i m0 g hm0
     intro o1
     show RdM.All _ (match hol4 o1.c with | some (q0, l0, q1, l1, q2, l2, q3, l3) => _ | none => _) _
     split
     · rename_i q0 l0 q1 l1 q2 l2 q3 l3 hm1
       intro o2
       show RdM.All _ (match intsFrom .i64 o2.c with | some (m, g) => _ | none => _) _
       split
       · rename_i m2 g0 hm2
         intro o3
         show RdM.All _ (match intsFrom .i64 o3.c with | some (m, g) => _ | none => _) _
         split
         · rename_i m3 g1 hm3
           intro o4
           show RdM.All _ (match intsFrom .i64 o4.c with | some (m, g) => _ | none => _) _
           split
           · rename_i m4 g2 hm4
             intro o5
             show RdM.All _ (match intsFrom .i64 o5.c with | some (m, g) => _ | none => _) _
             split
             · rename_i m5 g3 hm5
               intro ho
               replace ho : m0 = 2 * len ∧ m2 = 2 * l0 ∧ m3 = 2 * l1 ∧ m4 = 2 * l2 ∧ m5 = 2 * l3 ∧ True := ho
               obtain ⟨hsz0, hsz2, hsz3, hsz4, hsz5, ho⟩ := ho
               subst hsz0
               subst hsz2
               subst hsz3
               subst hsz4
               subst hsz5
               refine ⟨?_, _, _, (vc_isPo4 len l0 l1 l2 l3 q0 q1 q2 q3 g g0 g1 g2 g3).mpr ?_⟩
               · refine okFlag_mk rfl ⟨?_, ⟨trivial, (contR_ints hm0).1, ⟨trivial, hol4_spec hm1 (by simp [sgSig, fsts, nth, sameN_self]) (by simp [sgSig, fsts, nth, sameN_self]) (by simp [sgSig, fsts, nth, sameN_self]) (by simp [sgSig, fsts, nth, sameN_self]), ⟨trivial, (contR_ints hm2).1, ⟨trivial, (contR_ints hm3).1, ⟨trivial, (contR_ints hm4).1, ⟨trivial, (contR_ints hm5).1, trivial⟩⟩⟩⟩⟩⟩⟩
                 simp [eqvRL, eqvR, sgSig, fsts, nth, sameN_self]
               · simp only [isPg]
                 generalize geoAll (2 * len) g = G
                 generalize geoAll (2 * l0) g0 = G0
                 generalize geoAll (2 * l1) g1 = G1
                 generalize geoAll (2 * l2) g2 = G2
                 generalize geoAll (2 * l3) g3 = G3
                 cases G <;> cases G0 <;> cases G1 <;> cases G2 <;> cases G3 <;> simp <;> omega
             · trivial
           · trivial
         · trivial
       · trivial
     · trivial
   · trivial
 · trivial
end Go.Proofs.Tryz.Sx
