/- Parts of a proof, in order: what each says stands at its head. No conditions. -/
import Derived.Test.YtfhkmkhcofodmaaGreatFM6
import Derived.Test.YtfhkmkhcofodmaaGreatFM5
namespace Go.Proofs.Tryz.Sx
open Go Go.Sx Go.Proofs Go.Fl Go.Geo
set_option maxRecDepth 100000
set_option maxHeartbeats 1000000
abbrev SerV := Bool × Bool × Bool × Int × Nat × Nat × Nat × Nat
def serL (v : SerV) (p : Nm) (n : Nat) : List SV := [.bool v.1, .bool v.2.1, .bool v.2.2.1, .int .u8 v.2.2.2.1, .nili, .flt .f64 v.2.2.2.2.1, .flt .f64 v.2.2.2.2.2.1, .flt .f64 v.2.2.2.2.2.2.1, .flt .f64 v.2.2.2.2.2.2.2, .slcc p n]
def serE : Cont → Option (SerV × Nm × Nat)
 | .cells [a, b, c, .int .u8 k, .nili, .flt .f64 x, .flt .f64 y, .flt .f64 z, .flt .f64 w, .slcc p n] => match a.toB, b.toB, c.toB with
   | some a, some b, some c => some ((a, b, c, k, x, y, z, w), p, n)
   | _, _, _ => none
 | _ => none
theorem serE_spec {σ : Sig} {c : Cont} {v : SerV} {p q : Nm} {n : Nat} (h : serE c = some (v, p, n)) (hs : sameN (σ q) p) : contR σ c (.cells (serL v q n)) := by
 unfold serE at h
 split at h
 · split at h
   · rename_i ha hb hc
     simp only [Option.some.injEq, Prod.mk.injEq] at h
     obtain ⟨rfl, rfl, rfl⟩ := h
     show eqvRL σ _ _
     simp [serL, eqvRL, eqvR, kEq_self, fkEq_self, toB_eqvR ha, toB_eqvR hb, toB_eqvR hc, hs]
   · cases h
 · cases h
def serU : Cont → Option (Nat × SerV × Nm × Nat)
 | .upto m [a, b, c, .int .u8 k, .nili, .flt .f64 x, .flt .f64 y, .flt .f64 z, .flt .f64 w, .slcc p n] => match a.toB, b.toB, c.toB with
   | some a, some b, some c => some (m, (a, b, c, k, x, y, z, w), p, n)
   | _, _, _ => none
 | _ => none
theorem serU_spec {σ : Sig} {c : Cont} {m : Nat} {v : SerV} {p q : Nm} {n : Nat} (h : serU c = some (m, v, p, n)) (hs : sameN (σ q) p) : contR σ c (.upto m (serL v q n)) := by
 unfold serU at h
 split at h
 · split at h
   · rename_i ha hb hc
     simp only [Option.some.injEq, Prod.mk.injEq] at h
     obtain ⟨rfl, rfl, rfl, rfl⟩ := h
     refine ⟨rfl, ?_⟩
     simp [serL, uptoR2, eqvR, kEq_self, fkEq_self, toB_eqvR ha, toB_eqvR hb, toB_eqvR hc, hs]
   · cases h
 · cases h
def polU : Cont → Option (Nm × Nm × Nat)
 | .cells [.ifc 157 (.ptr s 0), .slcc h k] => some (s, h, k)
 | _ => none
theorem polU_spec {σ : Sig} {c : Cont} {s h p q : Nm} {k : Nat} (hh : polU c = some (s, h, k)) (s0 : sameN (σ p) s) (s1 : sameN (σ q) h) : contR σ c (.cells [.ifc 157 (.ptr p 0), .slcc q k]) := by
 unfold polU at hh
 split at hh
 · simp only [Option.some.injEq, Prod.mk.injEq] at hh
   obtain ⟨rfl, rfl, rfl⟩ := hh
   show eqvRL σ _ _
   simp [eqvRL, eqvR, s0, s1]
 · cases hh
def rgU : Cont → Option (Nat × Nm × Nm × Nm × Nm)
 | .upto k [.ifc 157 (.ptr e0 0), .ifc 157 (.ptr e1 0), .ifc 157 (.ptr e2 0), .ifc 157 (.ptr e3 0)] => some (k, e0, e1, e2, e3)
 | _ => none
theorem rgU_spec {σ : Sig} {c : Cont} {k : Nat} {e0 e1 e2 e3 p0 p1 p2 p3 : Nm} (h : rgU c = some (k, e0, e1, e2, e3)) (s0 : sameN (σ p0) e0) (s1 : sameN (σ p1) e1) (s2 : sameN (σ p2) e2) (s3 : sameN (σ p3) e3) :
   contR σ c (.upto k [.ifc 157 (.ptr p0 0), .ifc 157 (.ptr p1 0), .ifc 157 (.ptr p2 0), .ifc 157 (.ptr p3 0)]) := by
 unfold rgU at h
 split at h
 · simp only [Option.some.injEq, Prod.mk.injEq] at h
   obtain ⟨rfl, rfl, rfl, rfl, rfl⟩ := h
   exact ⟨rfl, by simp [uptoR2, eqvR, s0, s1, s2, s3]⟩
 · cases h
def mvOkU (n : Nat) (cl : Bool) (g : Nat → Nat) (dx dy : Nat) : Prop := n < 64 ∧ (∀ j, j < 2 * n → fok .add .f64 (g j) (if j % 2 = 0 then dx else dy)) ∧ (ppBig n cl = true → ppOk (mvI g dx dy n) n)
noncomputable def GPMU : Ctx := ⟨⟨tys, []⟩, [(95, flatC (conR sMoveC))]⟩
theorem gPMU : CtxOk Tryz.prog GPMU := ⟨⟨tysOk, FlatsOk.nil⟩, GamOk.cons (ConOk.flat sMove) GamOk.nil, by kernel_rfl⟩
noncomputable def pMvUC : List SV → RdM
 | [.ptr P 0, .flt .f64 dx, .flt .f64 dy] => .read P fun o0 => (match polU o0.c with
   | some (s, h, k) => .read s fun o1 => (match serE o1.c with
   | some (sv, p, l) => .read p fun o2 => (match fltsFrom .f64 o2.c with
   | some (m2, g) => .read h fun o3 => (match rgU o3.c with
   | some (kk, e0, e1, e2, e3) => .read e0 fun o4 => (match serU o4.c with
   | some (u0, v0, p0, l0) => .read p0 fun o5 => (match fltsFrom .f64 o5.c with
   | some (m5, g0) => .read e1 fun o6 => (match serU o6.c with
   | some (u1, v1, p1, l1) => .read p1 fun o7 => (match fltsFrom .f64 o7.c with
   | some (m7, g1) => .read e2 fun o8 => (match serU o8.c with
   | some (u2, v2, p2, l2) => .read p2 fun o9 => (match fltsFrom .f64 o9.c with
   | some (m9, g2) => .read e3 fun o10 => (match serU o10.c with
   | some (u3, v3, p3, l3) => .read p3 fun o11 => (match fltsFrom .f64 o11.c with
   | some (m11, g3) => .ret ⟨[.ptr 0 0, .flt .f64 dx, .flt .f64 dy], [(0, ⟨false, 137, .cells [.ifc 157 (.ptr 1 0), .slcc 3 k], 0⟩), (1, ⟨false, 150, .cells (serL sv 2 l), 0⟩), (2, ⟨false, 100, .flts .f64 m2 g, 0⟩), (3, ⟨false, 106, .upto kk [.ifc 157 (.ptr 4 0), .ifc 157 (.ptr 6 0), .ifc 157 (.ptr 8 0), .ifc 157 (.ptr 10 0)], 0⟩), (4, ⟨false, 150, .upto u0 (serL v0 5 l0), 0⟩), (5, ⟨false, 100, .flts .f64 m5 g0, 0⟩), (6, ⟨false, 150, .upto u1 (serL v1 7 l1), 0⟩), (7, ⟨false, 100, .flts .f64 m7 g1, 0⟩), (8, ⟨false, 150, .upto u2 (serL v2 9 l2), 0⟩), (9, ⟨false, 100, .flts .f64 m9 g2, 0⟩), (10, ⟨false, 150, .upto u3 (serL v3 11 l3), 0⟩), (11, ⟨false, 100, .flts .f64 m11 g3, 0⟩)], .ptr 12 0, [], [(12, ⟨true, 137, .cells [.ifc 157 (.ptr 14 0), .slcc 13 k], 0⟩), (13, ⟨true, 106, .upto k [.ifc 157 (.ptr 16 0), .ifc 157 (.ptr 18 0), .ifc 157 (.ptr 20 0), .ifc 157 (.ptr 22 0)], 1⟩), (14, ⟨true, 150, .cells (rectS l sv.1 (mvI g dx dy l) 15 sv.2.2.2.1), 0⟩), (15, ⟨true, 100, .flts .f64 (2 * l) (mvI g dx dy l), 2⟩), (16, ⟨true, 150, .upto (pres k 0 10) (rectS l0 v0.1 (mvI g0 dx dy l0) 17 v0.2.2.2.1), 0⟩), (17, ⟨true, 100, .flts .f64 (2 * l0) (mvI g0 dx dy l0), 2⟩), (18, ⟨true, 150, .upto (pres k 1 10) (rectS l1 v1.1 (mvI g1 dx dy l1) 19 v1.2.2.2.1), 0⟩), (19, ⟨true, 100, .flts .f64 (2 * l1) (mvI g1 dx dy l1), 2⟩), (20, ⟨true, 150, .upto (pres k 2 10) (rectS l2 v2.1 (mvI g2 dx dy l2) 21 v2.2.2.2.1), 0⟩), (21, ⟨true, 100, .flts .f64 (2 * l2) (mvI g2 dx dy l2), 2⟩), (22, ⟨true, 150, .upto (pres k 3 10) (rectS l3 v3.1 (mvI g3 dx dy l3) 23 v3.2.2.2.1), 0⟩), (23, ⟨true, 100, .flts .f64 (2 * l3) (mvI g3 dx dy l3), 2⟩)], some (m2 = 2 * l ∧ m5 = 2 * l0 ∧ m7 = 2 * l1 ∧ m9 = 2 * l2 ∧ m11 = 2 * l3 ∧ kk = k ∧ hab k l0 l1 l2 l3 ∧ (u0 = pres k 0 10 ∧ u1 = pres k 1 10 ∧ u2 = pres k 2 10 ∧ u3 = pres k 3 10) ∧ mvOkU l sv.1 g dx dy ∧ mvOkU l0 v0.1 g0 dx dy ∧ mvOkU l1 v1.1 g1 dx dy ∧ mvOkU l2 v2.1 g2 dx dy ∧ mvOkU l3 v3.1 g3 dx dy)⟩
   | none => .fail)
   | none => .fail)
   | none => .fail)
   | none => .fail)
   | none => .fail)
   | none => .fail)
   | none => .fail)
   | none => .fail)
   | none => .fail)
   | none => .fail)
   | none => .fail)
   | none => .fail)
 | _ => .fail
theorem vc_pMvU (k l l0 l1 l2 l3 u0 u1 u2 u3 : Nat) (_ _ _ _ _ _ _ _ _ _ _ : Nm) (sv v0 v1 v2 v3 : SerV) (kk dx dy : Nat)  (g : Nat → Nat) (g0 : Nat → Nat) (g1 : Nat → Nat) (g2 : Nat → Nat) (g3 : Nat → Nat) : runA GPMU 12 [(14, .iter 5)] [] (codeOf Tryz.f85) (init Tryz.f85.ntmps [.ptr 0 0, .flt .f64 dx, .flt .f64 dy] [(0, ⟨false, 137, .cells [.ifc 157 (.ptr 1 0), .slcc 3 k], 0⟩), (1, ⟨false, 150, .cells (serL sv 2 l), 0⟩), (2, ⟨false, 100, .flts .f64 (2 * l) g, 0⟩), (3, ⟨false, 106, .upto kk [.ifc 157 (.ptr 4 0), .ifc 157 (.ptr 6 0), .ifc 157 (.ptr 8 0), .ifc 157 (.ptr 10 0)], 0⟩), (4, ⟨false, 150, .upto u0 (serL v0 5 l0), 0⟩), (5, ⟨false, 100, .flts .f64 (2 * l0) g0, 0⟩), (6, ⟨false, 150, .upto u1 (serL v1 7 l1), 0⟩), (7, ⟨false, 100, .flts .f64 (2 * l1) g1, 0⟩), (8, ⟨false, 150, .upto u2 (serL v2 9 l2), 0⟩), (9, ⟨false, 100, .flts .f64 (2 * l2) g2, 0⟩), (10, ⟨false, 150, .upto u3 (serL v3 11 l3), 0⟩), (11, ⟨false, 100, .flts .f64 (2 * l3) g3, 0⟩)] 12) (endK GPMU.E.T Tryz.f85.results.toList fun S v => postP 12 ⟨[.ptr 0 0, .flt .f64 dx, .flt .f64 dy], [(0, ⟨false, 137, .cells [.ifc 157 (.ptr 1 0), .slcc 3 k], 0⟩), (1, ⟨false, 150, .cells (serL sv 2 l), 0⟩), (2, ⟨false, 100, .flts .f64 (2 * l) g, 0⟩), (3, ⟨false, 106, .upto kk [.ifc 157 (.ptr 4 0), .ifc 157 (.ptr 6 0), .ifc 157 (.ptr 8 0), .ifc 157 (.ptr 10 0)], 0⟩), (4, ⟨false, 150, .upto u0 (serL v0 5 l0), 0⟩), (5, ⟨false, 100, .flts .f64 (2 * l0) g0, 0⟩), (6, ⟨false, 150, .upto u1 (serL v1 7 l1), 0⟩), (7, ⟨false, 100, .flts .f64 (2 * l1) g1, 0⟩), (8, ⟨false, 150, .upto u2 (serL v2 9 l2), 0⟩), (9, ⟨false, 100, .flts .f64 (2 * l2) g2, 0⟩), (10, ⟨false, 150, .upto u3 (serL v3 11 l3), 0⟩), (11, ⟨false, 100, .flts .f64 (2 * l3) g3, 0⟩)], .ptr 12 0, [], [(12, ⟨true, 137, .cells [.ifc 157 (.ptr 14 0), .slcc 13 k], 0⟩), (13, ⟨true, 106, .upto k [.ifc 157 (.ptr 16 0), .ifc 157 (.ptr 18 0), .ifc 157 (.ptr 20 0), .ifc 157 (.ptr 22 0)], 1⟩), (14, ⟨true, 150, .cells (rectS l sv.1 (mvI g dx dy l) 15 sv.2.2.2.1), 0⟩), (15, ⟨true, 100, .flts .f64 (2 * l) (mvI g dx dy l), 2⟩), (16, ⟨true, 150, .upto (pres k 0 10) (rectS l0 v0.1 (mvI g0 dx dy l0) 17 v0.2.2.2.1), 0⟩), (17, ⟨true, 100, .flts .f64 (2 * l0) (mvI g0 dx dy l0), 2⟩), (18, ⟨true, 150, .upto (pres k 1 10) (rectS l1 v1.1 (mvI g1 dx dy l1) 19 v1.2.2.2.1), 0⟩), (19, ⟨true, 100, .flts .f64 (2 * l1) (mvI g1 dx dy l1), 2⟩), (20, ⟨true, 150, .upto (pres k 2 10) (rectS l2 v2.1 (mvI g2 dx dy l2) 21 v2.2.2.2.1), 0⟩), (21, ⟨true, 100, .flts .f64 (2 * l2) (mvI g2 dx dy l2), 2⟩), (22, ⟨true, 150, .upto (pres k 3 10) (rectS l3 v3.1 (mvI g3 dx dy l3) 23 v3.2.2.2.1), 0⟩), (23, ⟨true, 100, .flts .f64 (2 * l3) (mvI g3 dx dy l3), 2⟩)], some (2 * l = 2 * l ∧ 2 * l0 = 2 * l0 ∧ 2 * l1 = 2 * l1 ∧ 2 * l2 = 2 * l2 ∧ 2 * l3 = 2 * l3 ∧ kk = k ∧ hab k l0 l1 l2 l3 ∧ (u0 = pres k 0 10 ∧ u1 = pres k 1 10 ∧ u2 = pres k 2 10 ∧ u3 = pres k 3 10) ∧ mvOkU l sv.1 g dx dy ∧ mvOkU l0 v0.1 g0 dx dy ∧ mvOkU l1 v1.1 g1 dx dy ∧ mvOkU l2 v2.1 g2 dx dy ∧ mvOkU l3 v3.1 g3 dx dy)⟩ S v) = (
(2 * l = 2 * l ∧ l < 64 ∧ (∀ (j : Nat), j < 2 * l → fok BinOp.add .f64 (g j) (if j % 2 = 0 then dx else dy)) ∧ (ppBig l (sv.1) = true → ppOk
(mvI g dx dy l) l)) ∧ (decide (0 < (↑k : Int)) = true → ((↑k : Int) = (↑k : Int) ∧ 0 ≤ (↑k : Int) ∧ (↑k : Int) ≤ 9223372036854775807 ∧ (↑k : Int) * 16 ≤ (140737488355328 : Int)) ∧ (decide ((0 : Int) <
(↑k : Int)) = true → (((0 : Int) ≤ 0 ∧ 0 < (↑k : Int)) ∧ 1 ≤ kk) ∧ 1 ≤ kk ∧ ((2 * l0 = 2 * l0 ∧ l0 < 64 ∧ (∀ (j : Nat), j < 2 * l0 → fok BinOp.add .f64 (g0 j) (if j % 2 =
0 then dx else dy)) ∧ (ppBig l0 (v0.1) = true → ppOk (mvI g0 dx dy l0) l0)) ∧ u0 = 10) ∧ (((0 : Int) ≤ 0 ∧ 0 < (↑(Int.toNat (↑k : Int)) : Int)) ∧ 1 ≤
 Int.toNat (↑k : Int)) ∧ 1 ≤ Int.toNat (↑k : Int) ∧ true = true ∧ (decide (1 < (↑k : Int)) = true → (((0 : Int) ≤ 1 ∧ 1 < (↑k : Int)) ∧ 1 ≤ kk) ∧ 2 ≤ kk ∧ ((2 * l1 = 2 * l1 ∧ l1 < 64 ∧ (∀ (j : Nat), j < 2 * l1 → fok BinOp.add .f64 (g1 j) (if j % 2 = 0 then dx else dy)) ∧ (ppBig l1 (v1.1) = true → ppOk (mvI g1 dx dy l1) l1)) ∧ u1 = 10) ∧ (((0 : Int) ≤ 1 ∧ 1 < (↑(Int.toNat (↑k : Int)) : Int)) ∧ 1 ≤ Int.toNat (↑k : Int)) ∧ 2 ≤ Int.toNat (↑k : Int) ∧ true = true ∧ (decide (2 < (↑k : Int)) = true → (((0 : Int) ≤ 2 ∧ (2 : Int) <
(↑k : Int)) ∧ 1 ≤ kk) ∧ 3 ≤ kk ∧ ((2 * l2 = 2 * l2 ∧ l2 < 64 ∧ (∀ (j : Nat), j < 2 * l2 → fok BinOp.add .f64 (g2 j) (if j % 2 = 0 then dx else dy)) ∧ (ppBig l2
(v2.1) = true → ppOk (mvI g2 dx dy l2) l2)) ∧ u2 = 10) ∧ (((0 : Int) ≤ 2 ∧ 2 < (↑(Int.toNat (↑k : Int)) : Int)) ∧ 1 ≤ Int.toNat (↑k : Int)) ∧ 3 ≤ Int.toNat (↑k : Int)
∧ true = true ∧ (decide (3 < (↑k : Int)) = true → (((0 : Int) ≤ 3 ∧ 3 < (↑k : Int)) ∧ 1 ≤ kk) ∧ 4 ≤ kk ∧ ((2 * l3 = 2 * l3 ∧ l3 < 64 ∧ (∀ (j : Nat), j < 2 * l3 → fok
 BinOp.add .f64 (g3 j) (if j % 2 = 0 then dx else dy)) ∧ (ppBig l3 (v3.1) = true → ppOk (mvI g3 dx dy l3) l3)) ∧ u3 = 10) ∧ (((0 : Int) ≤ 3 ∧ (3 : Int) <
(↑(Int.toNat (↑k : Int)) : Int)) ∧ 1 ≤ Int.toNat (↑k : Int)) ∧ 4 ≤ Int.toNat (↑k : Int) ∧ true = true ∧ (decide (4 < (↑k : Int)) = true → (((0 : Int) ≤ 4 ∧ 4 < (↑k : Int)) ∧ 1 ≤ kk) ∧ False) ∧ (decide
(4 < (↑k : Int)) = false → (True ∧ 0 = 0) ∧ True ∧ (137 = 137 ∧ 0 = 0 ∧ (True ∧ 0 = 0) ∧ (True ∧ Int.toNat (↑k : Int) = k) ∧ True) ∧ True ∧ (106 = 106 ∧ 1
= 1 ∧ k ≤ Int.toNat (↑k : Int) ∧ (0 < k → True ∧ 0 = 0) ∧ (1 < k → True ∧ 0 = 0) ∧ (2 < k → True ∧ 0 = 0) ∧ (3 < k → True ∧ 0 = 0) ∧ k ≤ 4) ∧ True ∧ (150 = 150 ∧ 0 = 0 ∧ sv.1 = sv.1 ∧ (ppBig l (sv.1) && fGt .f64 (cwF (mvI g dx dy l) l l) 0) =
(ppBig l (sv.1) && fGt .f64 (cwF (mvI g dx dy l) l l) 0) ∧ (ppBig l (sv.1) && !(dcF (mvI g dx dy l) l l).2)
= (ppBig l (sv.1) && !(dcF (mvI g dx dy l) l l).2) ∧ (((sv.2).2).2).1 = (((sv.2).2).2).1 ∧ True ∧ pick
(ppBig l (sv.1)) (rlo (mvI g dx dy l) 0 l) = pick (ppBig l (sv.1)) (rlo (mvI g dx dy l) 0 l) ∧
 pick (ppBig l (sv.1)) (rlo (mvI g dx dy l) 1 l) = pick (ppBig l (sv.1)) (rlo (mvI g
 dx dy l) 1 l) ∧ pick (ppBig l (sv.1)) (rhi (mvI g dx dy l) 0 l) = pick (ppBig l (sv.1)) (rhi
(mvI g dx dy l) 0 l) ∧ pick (ppBig l (sv.1)) (rhi (mvI g dx dy l) 1 l) = pick (ppBig l (sv.1))
(rhi (mvI g dx dy l) 1 l) ∧ (True ∧ l = l) ∧ True) ∧ True ∧ (100 = 100 ∧ 2 = 2 ∧ 2 * l ≤ 2 * l ∧ ∀ (i : Nat), i < 2 * l → mvI g dx
 dy l i = mvI g dx dy l i) ∧ True ∧ (150 = 150 ∧ 0 = 0 ∧ v0.1 = v0.1 ∧ (ppBig l0 (v0.1) && fGt .f64 (cwF (mvI g0 dx dy
 l0) l0 l0) 0) = (ppBig l0 (v0.1) && fGt .f64 (cwF (mvI g0 dx dy l0) l0 l0) 0) ∧ (ppBig l0 (v0.1) && !(dcF
(mvI g0 dx dy l0) l0 l0).2) = (ppBig l0 (v0.1) && !(dcF (mvI g0 dx dy l0) l0 l0).2) ∧ (((v0.2).2).2).1 = ((Prod.snd
(v0.2)).2).1 ∧ True ∧ pick (ppBig l0 (v0.1)) (rlo (mvI g0 dx dy l0) 0 l0) = pick (ppBig l0 (v0.1))
(rlo (mvI g0 dx dy l0) 0 l0) ∧ pick (ppBig l0 (v0.1)) (rlo (mvI g0 dx dy l0) 1 l0) = pick
(ppBig l0 (v0.1)) (rlo (mvI g0 dx dy l0) 1 l0) ∧ pick (ppBig l0 (v0.1)) (rhi (mvI g0 dx dy l0) 0 l0) = pick (ppBig l0 (v0.1)) (rhi (mvI g0 dx dy l0) 0 l0) ∧ pick (ppBig l0 (v0.1)) (rhi
(mvI g0 dx dy l0) 1 l0) = pick (ppBig l0 (v0.1)) (rhi (mvI g0 dx dy l0) 1 l0) ∧ (True ∧ l0 = l0) ∧ pres k 0 10 = 10) ∧ True ∧ (100 = 100 ∧ 2 = 2 ∧ 2 * l0 ≤ 2 * l0 ∧ ∀ (i : Nat), i < 2 * l0 → mvI g0 dx dy l0 i = mvI g0 dx dy l0 i) ∧ True ∧ (150 =
150 ∧ 0 = 0 ∧ v1.1 = v1.1 ∧ (ppBig l1 (v1.1) && fGt .f64 (cwF (mvI g1 dx dy l1) l1 l1) 0) = (ppBig l1 (v1.1) &&
 fGt .f64 (cwF (mvI g1 dx dy l1) l1 l1) 0) ∧ (ppBig l1 (v1.1) && !(dcF (mvI g1 dx dy l1) l1 l1).2) = (ppBig l1
(v1.1) && !(dcF (mvI g1 dx dy l1) l1 l1).2) ∧ (((v1.2).2).2).1 = (((v1.2).2).2).1 ∧ True ∧ pick (ppBig l1
(v1.1)) (rlo (mvI g1 dx dy l1) 0 l1) = pick (ppBig l1 (v1.1)) (rlo (mvI g1 dx dy l1) 0 l1) ∧
 pick (ppBig l1 (v1.1)) (rlo (mvI g1 dx dy l1) 1 l1) = pick (ppBig l1 (v1.1)) (rlo
(mvI g1 dx dy l1) 1 l1) ∧ pick (ppBig l1 (v1.1)) (rhi (mvI g1 dx dy l1) 0 l1) = pick (ppBig l1
(v1.1)) (rhi (mvI g1 dx dy l1) 0 l1) ∧ pick (ppBig l1 (v1.1)) (rhi (mvI g1 dx dy l1) 1 l1) =
 pick (ppBig l1 (v1.1)) (rhi (mvI g1 dx dy l1) 1 l1) ∧ (True ∧ l1 = l1) ∧ pres k 1 10 = 10) ∧ True ∧ (100 = 100 ∧ 2 = 2 ∧ 2 * l1 ≤ 2 * l1 ∧ ∀ (i : Nat), i < 2 * l1 → mvI g1 dx dy l1 i = mvI g1 dx dy l1 i) ∧ True ∧ (150 = 150 ∧ 0 = 0 ∧ v2.1 =
 v2.1 ∧ (ppBig l2 (v2.1) && fGt .f64 (cwF (mvI g2 dx dy l2) l2 l2) 0) = (ppBig l2 (v2.1) && fGt .f64 (cwF
(mvI g2 dx dy l2) l2 l2) 0) ∧ (ppBig l2 (v2.1) && !(dcF (mvI g2 dx dy l2) l2 l2).2) = (ppBig l2 (v2.1) && !Prod.snd
(dcF (mvI g2 dx dy l2) l2 l2)) ∧ (((v2.2).2).2).1 = (((v2.2).2).2).1 ∧ True ∧ pick (ppBig l2 (v2.1))
(rlo (mvI g2 dx dy l2) 0 l2) = pick (ppBig l2 (v2.1)) (rlo (mvI g2 dx dy l2) 0 l2) ∧ pick
(ppBig l2 (v2.1)) (rlo (mvI g2 dx dy l2) 1 l2) = pick (ppBig l2 (v2.1)) (rlo (mvI g2 dx dy l2) 1 l2) ∧ pick (ppBig l2 (v2.1)) (rhi (mvI g2 dx dy l2) 0 l2) = pick (ppBig l2 (v2.1)) (rhi
(mvI g2 dx dy l2) 0 l2) ∧ pick (ppBig l2 (v2.1)) (rhi (mvI g2 dx dy l2) 1 l2) = pick (ppBig l2
(v2.1)) (rhi (mvI g2 dx dy l2) 1 l2) ∧ (True ∧ l2 = l2) ∧ pres k 2 10 = 10) ∧ True ∧ (100 = 100 ∧ 2 = 2 ∧ 2 * l2 ≤ 2 * l2 ∧ ∀ (i : Nat), i < 2 * l2 → mvI g2 dx dy l2 i = mvI g2 dx dy l2 i) ∧ True ∧ (150 = 150 ∧ 0 = 0 ∧ v3.1 = v3.1 ∧ (ppBig l3 (Prod.fst
 v3) && fGt .f64 (cwF (mvI g3 dx dy l3) l3 l3) 0) = (ppBig l3 (v3.1) && fGt .f64 (cwF (mvI g3 dx dy l3) l3 l3) 0) ∧
(ppBig l3 (v3.1) && !(dcF (mvI g3 dx dy l3) l3 l3).2) = (ppBig l3 (v3.1) && !(dcF (mvI g3 dx dy l3) l3 l3).2) ∧
 (((v3.2).2).2).1 = (((v3.2).2).2).1 ∧ True ∧ pick (ppBig l3 (v3.1)) (rlo (mvI g3 dx dy l3) 0 l3) =
 pick (ppBig l3 (v3.1)) (rlo (mvI g3 dx dy l3) 0 l3) ∧ pick (ppBig l3 (v3.1)) (rlo
(mvI g3 dx dy l3) 1 l3) = pick (ppBig l3 (v3.1)) (rlo (mvI g3 dx dy l3) 1 l3) ∧ pick (ppBig l3
(v3.1)) (rhi (mvI g3 dx dy l3) 0 l3) = pick (ppBig l3 (v3.1)) (rhi (mvI g3 dx dy l3) 0 l3) ∧
 pick (ppBig l3 (v3.1)) (rhi (mvI g3 dx dy l3) 1 l3) = pick (ppBig l3 (v3.1)) (rhi
(mvI g3 dx dy l3) 1 l3) ∧ (True ∧ l3 = l3) ∧ pres k 3 10 = 10) ∧ True ∧ (100 = 100 ∧ 2 = 2 ∧ 2 * l3 ≤ 2 * l3 ∧ ∀ (i : Nat), i < 2 * l3 → mvI g3 dx dy l3 i = mvI g3 dx dy l3 i) ∧ True)) ∧ (decide (3 < (↑k : Int)) = false → (True ∧ 0 = 0) ∧ True ∧ (137 = 137 ∧ 0 = 0 ∧ (True ∧ 0 = 0) ∧ (True ∧ Int.toNat (↑k : Int) = k) ∧ True) ∧ True ∧ (106 = 106 ∧ 1 = 1 ∧ k ≤ Int.toNat (↑k : Int) ∧ (0 < k → True ∧ 0 = 0) ∧ (1 < k → True ∧ 0 = 0) ∧
(2 < k → True ∧ 0 = 0) ∧ (3 < k → False) ∧ k ≤ 4) ∧ True ∧ (150 = 150 ∧ 0 = 0 ∧ sv.1 = sv.1 ∧ (ppBig l (sv.1) && fGt .f64
(cwF (mvI g dx dy l) l l) 0) = (ppBig l (sv.1) && fGt .f64 (cwF (mvI g dx dy l) l l) 0) ∧ (ppBig l (sv.1)
&& !(dcF (mvI g dx dy l) l l).2) = (ppBig l (sv.1) && !(dcF (mvI g dx dy l) l l).2) ∧ (((sv.2).2).2).1 =
 (((sv.2).2).2).1 ∧ True ∧ pick (ppBig l (sv.1)) (rlo (mvI g dx dy l) 0 l) = pick (ppBig l (Prod.fst
 sv)) (rlo (mvI g dx dy l) 0 l) ∧ pick (ppBig l (sv.1)) (rlo (mvI g dx dy l) 1 l) = pick
(ppBig l (sv.1)) (rlo (mvI g dx dy l) 1 l) ∧ pick (ppBig l (sv.1)) (rhi (mvI g dx dy l) 0 l) =
 pick (ppBig l (sv.1)) (rhi (mvI g dx dy l) 0 l) ∧ pick (ppBig l (sv.1)) (rhi (mvI g
 dx dy l) 1 l) = pick (ppBig l (sv.1)) (rhi (mvI g dx dy l) 1 l) ∧ (True ∧ l = l) ∧ True) ∧ True ∧ (100 = 100 ∧ 2 = 2 ∧ 2 * l ≤ 2 * l ∧ ∀ (i : Nat), i < 2 * l → mvI g dx dy l i = mvI g dx dy l i) ∧ True ∧ (150 = 150 ∧ 0 = 0 ∧ v0.1 = v0.1 ∧ (ppBig l0
(v0.1) && fGt .f64 (cwF (mvI g0 dx dy l0) l0 l0) 0) = (ppBig l0 (v0.1) && fGt .f64 (cwF (mvI g0 dx dy l0) l0 l0) 0) ∧
(ppBig l0 (v0.1) && !(dcF (mvI g0 dx dy l0) l0 l0).2) = (ppBig l0 (v0.1) && !(dcF (mvI g0 dx dy l0) l0 l0).2) ∧
 (((v0.2).2).2).1 = (((v0.2).2).2).1 ∧ True ∧ pick (ppBig l0 (v0.1)) (rlo (mvI g0 dx dy l0) 0 l0) =
 pick (ppBig l0 (v0.1)) (rlo (mvI g0 dx dy l0) 0 l0) ∧ pick (ppBig l0 (v0.1)) (rlo
(mvI g0 dx dy l0) 1 l0) = pick (ppBig l0 (v0.1)) (rlo (mvI g0 dx dy l0) 1 l0) ∧ pick (ppBig l0
(v0.1)) (rhi (mvI g0 dx dy l0) 0 l0) = pick (ppBig l0 (v0.1)) (rhi (mvI g0 dx dy l0) 0 l0) ∧
 pick (ppBig l0 (v0.1)) (rhi (mvI g0 dx dy l0) 1 l0) = pick (ppBig l0 (v0.1)) (rhi
(mvI g0 dx dy l0) 1 l0) ∧ (True ∧ l0 = l0) ∧ pres k 0 10 = 10) ∧ True ∧ (100 = 100 ∧ 2 = 2 ∧ 2 * l0 ≤ 2 * l0 ∧ ∀ (i : Nat), i < 2 * l0 → mvI g0 dx dy l0 i = mvI g0 dx dy l0 i) ∧ True ∧ (150 = 150 ∧ 0 = 0 ∧ v1.1 = v1.1 ∧ (ppBig l1 (v1.1) && fGt .f64
(cwF (mvI g1 dx dy l1) l1 l1) 0) = (ppBig l1 (v1.1) && fGt .f64 (cwF (mvI g1 dx dy l1) l1 l1) 0) ∧ (ppBig l1
(v1.1) && !(dcF (mvI g1 dx dy l1) l1 l1).2) = (ppBig l1 (v1.1) && !(dcF (mvI g1 dx dy l1) l1 l1).2) ∧ ((Prod.snd
(v1.2)).2).1 = (((v1.2).2).2).1 ∧ True ∧ pick (ppBig l1 (v1.1)) (rlo (mvI g1 dx dy l1) 0 l1) = pick
(ppBig l1 (v1.1)) (rlo (mvI g1 dx dy l1) 0 l1) ∧ pick (ppBig l1 (v1.1)) (rlo (mvI g1 dx dy l1) 1 l1) = pick (ppBig l1 (v1.1)) (rlo (mvI g1 dx dy l1) 1 l1) ∧ pick (ppBig l1 (v1.1)) (rhi
(mvI g1 dx dy l1) 0 l1) = pick (ppBig l1 (v1.1)) (rhi (mvI g1 dx dy l1) 0 l1) ∧ pick (ppBig l1
(v1.1)) (rhi (mvI g1 dx dy l1) 1 l1) = pick (ppBig l1 (v1.1)) (rhi (mvI g1 dx dy l1) 1 l1) ∧ (True ∧ l1 = l1) ∧
 pres k 1 10 = 10) ∧ True ∧ (100 = 100 ∧ 2 = 2 ∧ 2 * l1 ≤ 2 * l1 ∧ ∀ (i : Nat), i < 2 * l1 → mvI g1 dx dy l1 i = mvI
 g1 dx dy l1 i) ∧ True ∧ (150 = 150 ∧ 0 = 0 ∧ v2.1 = v2.1 ∧ (ppBig l2 (v2.1) && fGt .f64 (cwF (mvI g2 dx dy l2) l2 l2) 0) =
(ppBig l2 (v2.1) && fGt .f64 (cwF (mvI g2 dx dy l2) l2 l2) 0) ∧ (ppBig l2 (v2.1) && !(dcF (mvI g2 dx dy
 l2) l2 l2).2) = (ppBig l2 (v2.1) && !(dcF (mvI g2 dx dy l2) l2 l2).2) ∧ (((v2.2).2).2).1 = (((v2.2).2).2).1 ∧ True ∧
 pick (ppBig l2 (v2.1)) (rlo (mvI g2 dx dy l2) 0 l2) = pick (ppBig l2 (v2.1)) (rlo
(mvI g2 dx dy l2) 0 l2) ∧ pick (ppBig l2 (v2.1)) (rlo (mvI g2 dx dy l2) 1 l2) = pick (ppBig l2
(v2.1)) (rlo (mvI g2 dx dy l2) 1 l2) ∧ pick (ppBig l2 (v2.1)) (rhi (mvI g2 dx dy l2) 0 l2) =
 pick (ppBig l2 (v2.1)) (rhi (mvI g2 dx dy l2) 0 l2) ∧ pick (ppBig l2 (v2.1)) (rhi
(mvI g2 dx dy l2) 1 l2) = pick (ppBig l2 (v2.1)) (rhi (mvI g2 dx dy l2) 1 l2) ∧ (True ∧ l2 = l2) ∧ pres k 2 10 = 10) ∧ True ∧ (100 = 100 ∧ 2 = 2 ∧ 2 * l2 ≤ 2 * l2 ∧ ∀ (i : Nat), i < 2 * l2 → mvI g2 dx dy l2 i = mvI g2 dx dy l2 i) ∧ True ∧
 pres k 3 10 = 0 ∧ True ∧ 2 * l3 = 0 ∧ True)) ∧ (decide (2 < (↑k : Int)) = false → (True ∧ 0 = 0) ∧ True ∧ (137 = 137 ∧ 0 = 0 ∧ (True ∧
0 = 0) ∧ (True ∧ Int.toNat (↑k : Int) = k) ∧ True) ∧ True ∧ (106 = 106 ∧ 1 = 1 ∧ k ≤ Int.toNat (↑k : Int) ∧ (0 < k → True ∧ 0 = 0) ∧ (1 < k → True ∧ 0 = 0) ∧ (2 < k → False) ∧ (3 < k → False) ∧ k ≤ 4) ∧ True ∧ (150 = 150 ∧ 0 = 0 ∧ sv.1 = sv.1 ∧ (ppBig l (sv.1) && fGt .f64 (cwF
(mvI g dx dy l) l l) 0) = (ppBig l (sv.1) && fGt .f64 (cwF (mvI g dx dy l) l l) 0) ∧ (ppBig l (sv.1) && !Prod.snd
(dcF (mvI g dx dy l) l l)) = (ppBig l (sv.1) && !(dcF (mvI g dx dy l) l l).2) ∧ (((sv.2).2).2).1 = (Prod.snd
((sv.2).2)).1 ∧ True ∧ pick (ppBig l (sv.1)) (rlo (mvI g dx dy l) 0 l) = pick (ppBig l (sv.1))
(rlo (mvI g dx dy l) 0 l) ∧ pick (ppBig l (sv.1)) (rlo (mvI g dx dy l) 1 l) = pick
(ppBig l (sv.1)) (rlo (mvI g dx dy l) 1 l) ∧ pick (ppBig l (sv.1)) (rhi (mvI g dx dy l) 0 l) =
 pick (ppBig l (sv.1)) (rhi (mvI g dx dy l) 0 l) ∧ pick (ppBig l (sv.1)) (rhi (mvI g
 dx dy l) 1 l) = pick (ppBig l (sv.1)) (rhi (mvI g dx dy l) 1 l) ∧ (True ∧ l = l) ∧ True) ∧ True ∧ (100 = 100 ∧ 2 = 2 ∧ 2 * l ≤ 2 * l ∧ ∀ (i : Nat), i < 2 * l → mvI g dx dy l i = mvI g dx dy l i) ∧ True ∧ (150 = 150 ∧ 0 = 0 ∧ v0.1 = v0.1 ∧ (ppBig l0
(v0.1) && fGt .f64 (cwF (mvI g0 dx dy l0) l0 l0) 0) = (ppBig l0 (v0.1) && fGt .f64 (cwF (mvI g0 dx dy l0) l0 l0) 0) ∧
(ppBig l0 (v0.1) && !(dcF (mvI g0 dx dy l0) l0 l0).2) = (ppBig l0 (v0.1) && !(dcF (mvI g0 dx dy l0) l0 l0).2) ∧
 (((v0.2).2).2).1 = (((v0.2).2).2).1 ∧ True ∧ pick (ppBig l0 (v0.1)) (rlo (mvI g0 dx dy l0) 0 l0) =
 pick (ppBig l0 (v0.1)) (rlo (mvI g0 dx dy l0) 0 l0) ∧ pick (ppBig l0 (v0.1)) (rlo
(mvI g0 dx dy l0) 1 l0) = pick (ppBig l0 (v0.1)) (rlo (mvI g0 dx dy l0) 1 l0) ∧ pick (ppBig l0
(v0.1)) (rhi (mvI g0 dx dy l0) 0 l0) = pick (ppBig l0 (v0.1)) (rhi (mvI g0 dx dy l0) 0 l0) ∧
 pick (ppBig l0 (v0.1)) (rhi (mvI g0 dx dy l0) 1 l0) = pick (ppBig l0 (v0.1)) (rhi
(mvI g0 dx dy l0) 1 l0) ∧ (True ∧ l0 = l0) ∧ pres k 0 10 = 10) ∧ True ∧ (100 = 100 ∧ 2 = 2 ∧ 2 * l0 ≤ 2 * l0 ∧ ∀ (i : Nat), i < 2 * l0 → mvI g0 dx dy l0 i = mvI g0 dx dy l0 i) ∧ True ∧ (150 = 150 ∧ 0 = 0 ∧ v1.1 = v1.1 ∧ (ppBig l1 (v1.1) && fGt .f64
(cwF (mvI g1 dx dy l1) l1 l1) 0) = (ppBig l1 (v1.1) && fGt .f64 (cwF (mvI g1 dx dy l1) l1 l1) 0) ∧ (ppBig l1
(v1.1) && !(dcF (mvI g1 dx dy l1) l1 l1).2) = (ppBig l1 (v1.1) && !(dcF (mvI g1 dx dy l1) l1 l1).2) ∧ ((Prod.snd
(v1.2)).2).1 = (((v1.2).2).2).1 ∧ True ∧ pick (ppBig l1 (v1.1)) (rlo (mvI g1 dx dy l1) 0 l1) = pick
(ppBig l1 (v1.1)) (rlo (mvI g1 dx dy l1) 0 l1) ∧ pick (ppBig l1 (v1.1)) (rlo (mvI g1 dx dy l1) 1 l1) = pick (ppBig l1 (v1.1)) (rlo (mvI g1 dx dy l1) 1 l1) ∧ pick (ppBig l1 (v1.1)) (rhi
(mvI g1 dx dy l1) 0 l1) = pick (ppBig l1 (v1.1)) (rhi (mvI g1 dx dy l1) 0 l1) ∧ pick (ppBig l1
(v1.1)) (rhi (mvI g1 dx dy l1) 1 l1) = pick (ppBig l1 (v1.1)) (rhi (mvI g1 dx dy l1) 1 l1) ∧ (True ∧ l1 = l1) ∧
 pres k 1 10 = 10) ∧ True ∧ (100 = 100 ∧ 2 = 2 ∧ 2 * l1 ≤ 2 * l1 ∧ ∀ (i : Nat), i < 2 * l1 → mvI g1 dx dy l1 i = mvI
 g1 dx dy l1 i) ∧ True ∧ pres k 2 10 = 0 ∧ True ∧ 2 * l2 = 0 ∧ True ∧ pres k 3 10 = 0 ∧ True ∧ 2 * l3 = 0 ∧ True)) ∧ (decide ((1 : Int)
< (↑k : Int)) = false → (True ∧ 0 = 0) ∧ True ∧ (137 = 137 ∧ 0 = 0 ∧ (True ∧ 0 = 0) ∧ (True ∧ Int.toNat (↑k : Int) = k) ∧ True) ∧ True ∧ (106 = 106 ∧ 1 = 1 ∧ k ≤ Int.toNat (↑k : Int) ∧ (0 < k → True ∧ 0 = 0) ∧ (1 < k → False) ∧ (2 < k → False) ∧ (3 < k → False) ∧ k ≤ 4) ∧ True ∧ (150 = 150 ∧ 0 = 0 ∧ sv.1
= sv.1 ∧ (ppBig l (sv.1) && fGt .f64 (cwF (mvI g dx dy l) l l) 0) = (ppBig l (sv.1) && fGt .f64 (cwF
(mvI g dx dy l) l l) 0) ∧ (ppBig l (sv.1) && !(dcF (mvI g dx dy l) l l).2) = (ppBig l (sv.1) && !(dcF
(mvI g dx dy l) l l).2) ∧ (((sv.2).2).2).1 = (((sv.2).2).2).1 ∧ True ∧ pick (ppBig l (sv.1)) (rlo
(mvI g dx dy l) 0 l) = pick (ppBig l (sv.1)) (rlo (mvI g dx dy l) 0 l) ∧ pick (ppBig l (sv.1))
(rlo (mvI g dx dy l) 1 l) = pick (ppBig l (sv.1)) (rlo (mvI g dx dy l) 1 l) ∧ pick
(ppBig l (sv.1)) (rhi (mvI g dx dy l) 0 l) = pick (ppBig l (sv.1)) (rhi (mvI g dx dy l) 0 l) ∧
 pick (ppBig l (sv.1)) (rhi (mvI g dx dy l) 1 l) = pick (ppBig l (sv.1)) (rhi (mvI g
 dx dy l) 1 l) ∧ (True ∧ l = l) ∧ True) ∧ True ∧ (100 = 100 ∧ 2 = 2 ∧ 2 * l ≤ 2 * l ∧ ∀ (i : Nat), i < 2 * l → mvI g dx dy l i = mvI g dx dy l i) ∧
 True ∧ (150 = 150 ∧ 0 = 0 ∧ v0.1 = v0.1 ∧ (ppBig l0 (v0.1) && fGt .f64 (cwF (mvI g0 dx dy l0) l0 l0) 0) =
(ppBig l0 (v0.1) && fGt .f64 (cwF (mvI g0 dx dy l0) l0 l0) 0) ∧ (ppBig l0 (v0.1) && !(dcF (mvI g0 dx dy
 l0) l0 l0).2) = (ppBig l0 (v0.1) && !(dcF (mvI g0 dx dy l0) l0 l0).2) ∧ (((v0.2).2).2).1 = (((v0.2).2).2).1 ∧ True ∧
 pick (ppBig l0 (v0.1)) (rlo (mvI g0 dx dy l0) 0 l0) = pick (ppBig l0 (v0.1)) (rlo
(mvI g0 dx dy l0) 0 l0) ∧ pick (ppBig l0 (v0.1)) (rlo (mvI g0 dx dy l0) 1 l0) = pick (ppBig l0
(v0.1)) (rlo (mvI g0 dx dy l0) 1 l0) ∧ pick (ppBig l0 (v0.1)) (rhi (mvI g0 dx dy l0) 0 l0) =
 pick (ppBig l0 (v0.1)) (rhi (mvI g0 dx dy l0) 0 l0) ∧ pick (ppBig l0 (v0.1)) (rhi
(mvI g0 dx dy l0) 1 l0) = pick (ppBig l0 (v0.1)) (rhi (mvI g0 dx dy l0) 1 l0) ∧ (True ∧ l0 = l0) ∧ pres k 0 10 = 10) ∧ True ∧ (100 = 100 ∧ 2 = 2 ∧ 2 * l0 ≤ 2 * l0 ∧ ∀ (i : Nat), i < 2 * l0 → mvI g0 dx dy l0 i = mvI g0 dx dy l0 i) ∧ True ∧
 pres k 1 10 = 0 ∧ True ∧ 2 * l1 = 0 ∧ True ∧ pres k 2 10 = 0 ∧ True ∧ 2 * l2 = 0 ∧ True ∧ pres k 3 10 = 0 ∧ True ∧ 2 * l3 = 0 ∧ True)) ∧ (decide (0 < (↑k : Int)) = false → (True ∧ 0 = 0) ∧ True ∧ (137 = 137 ∧ 0 = 0 ∧ (True ∧ 0 = 0) ∧ (True ∧ Int.toNat
(↑k : Int) = k) ∧ True) ∧ True ∧ (106 = 106 ∧ 1 = 1 ∧ k ≤ Int.toNat (↑k : Int) ∧ (0 < k → False) ∧ (1 < k → False) ∧ (2 < k → False) ∧ (3 < k → False) ∧ k ≤ 4) ∧ True ∧ (150 = 150 ∧ 0 = 0 ∧ sv.1 = sv.1 ∧ (ppBig l (sv.1) && fGt .f64 (cwF (mvI g dx dy l) l l) 0) = (ppBig l (sv.1) &&
 fGt .f64 (cwF (mvI g dx dy l) l l) 0) ∧ (ppBig l (sv.1) && !(dcF (mvI g dx dy l) l l).2) = (ppBig l (sv.1)
&& !(dcF (mvI g dx dy l) l l).2) ∧ (((sv.2).2).2).1 = (((sv.2).2).2).1 ∧ True ∧ pick (ppBig l (sv.1))
(rlo (mvI g dx dy l) 0 l) = pick (ppBig l (sv.1)) (rlo (mvI g dx dy l) 0 l) ∧ pick
(ppBig l (sv.1)) (rlo (mvI g dx dy l) 1 l) = pick (ppBig l (sv.1)) (rlo (mvI g dx dy l) 1 l) ∧
 pick (ppBig l (sv.1)) (rhi (mvI g dx dy l) 0 l) = pick (ppBig l (sv.1)) (rhi (mvI g
 dx dy l) 0 l) ∧ pick (ppBig l (sv.1)) (rhi (mvI g dx dy l) 1 l) = pick (ppBig l (sv.1)) (rhi
(mvI g dx dy l) 1 l) ∧ (True ∧ l = l) ∧ True) ∧ True ∧ (100 = 100 ∧ 2 = 2 ∧ 2 * l ≤ 2 * l ∧ ∀ (i : Nat), i < 2 * l → mvI g dx dy l i =
 mvI g dx dy l i) ∧ True ∧ pres k 0 10 = 0 ∧ True ∧ 2 * l0 = 0 ∧ True ∧ pres k 1 10 = 0 ∧ True ∧ 2 * l1 = 0 ∧ True ∧
 pres k 2 10 = 0 ∧ True ∧ 2 * l2 = 0 ∧ True ∧ pres k 3 10 = 0 ∧ True ∧ 2 * l3 = 0 ∧ True)) ∧ (decide (0 < (↑k : Int)) = false →
(True ∧ 0 = 0) ∧ True ∧ (137 = 137 ∧ 0 = 0 ∧ (True ∧ 0 = 0) ∧ k = 0 ∧ True) ∧ True ∧ k = 0 ∧ True ∧ (150 = 150 ∧ 0 = 0 ∧ sv.1 =
 sv.1 ∧ (ppBig l (sv.1) && fGt .f64 (cwF (mvI g dx dy l) l l) 0) = (ppBig l (sv.1) && fGt .f64 (cwF
(mvI g dx dy l) l l) 0) ∧ (ppBig l (sv.1) && !(dcF (mvI g dx dy l) l l).2) = (ppBig l (sv.1) && !(dcF
(mvI g dx dy l) l l).2) ∧ (((sv.2).2).2).1 = (((sv.2).2).2).1 ∧ True ∧ pick (ppBig l (sv.1)) (rlo
(mvI g dx dy l) 0 l) = pick (ppBig l (sv.1)) (rlo (mvI g dx dy l) 0 l) ∧ pick (ppBig l (sv.1))
(rlo (mvI g dx dy l) 1 l) = pick (ppBig l (sv.1)) (rlo (mvI g dx dy l) 1 l) ∧ pick
(ppBig l (sv.1)) (rhi (mvI g dx dy l) 0 l) = pick (ppBig l (sv.1)) (rhi (mvI g dx dy l) 0 l) ∧
 pick (ppBig l (sv.1)) (rhi (mvI g dx dy l) 1 l) = pick (ppBig l (sv.1)) (rhi (mvI g
 dx dy l) 1 l) ∧ (True ∧ l = l) ∧ True) ∧ True ∧ (100 = 100 ∧ 2 = 2 ∧ 2 * l ≤ 2 * l ∧ ∀ (i : Nat), i < 2 * l → mvI g dx dy l i = mvI g dx dy l i) ∧
 True ∧ pres k 0 10 = 0 ∧ True ∧ 2 * l0 = 0 ∧ True ∧ pres k 1 10 = 0 ∧ True ∧ 2 * l1 = 0 ∧ True ∧ pres k 2
10 = 0 ∧ True ∧ 2 * l2 = 0 ∧ True ∧ pres k 3 10 = 0 ∧ True ∧ 2 * l3 = 0 ∧ True)) := by kernel_rfl
theorem pMvU : ConOk Tryz.prog 85 (conR pMvUC) := by
 refine con_of_vc gPMU Tryz.func85 rfl (by kernel_rfl) fun args => ?_
 unfold pMvUC
 split
 · rename_i P dx dy
   intro o0
   show RdM.All _ (match polU o0.c with | some (s, h, k) => _ | none => _) _
   split
   · rename_i s h k hm0
     intro o1
     show RdM.All _ (match serE o1.c with | some (sv, p, l) => _ | none => _) _
     split
     · rename_i sv p l hm1
       intro o2
       show RdM.All _ (match fltsFrom .f64 o2.c with | some (m, g) => _ | none => _) _
       split
       · rename_i m2 g hm2
         intro o3
         show RdM.All _ (match rgU o3.c with | some (kk, e0, e1, e2, e3) => _ | none => _) _
         split
         · rename_i kk e0 e1 e2 e3 hm3
           intro o4
           show RdM.All _ (match serU o4.c with | some (u0, v0, p0, l0) => _ | none => _) _
           split
           · rename_i u0 v0 p0 l0 hm4
             intro o5
             show RdM.All _ (match fltsFrom .f64 o5.c with | some (m, g) => _ | none => _) _
             split
             · rename_i m5 g0 hm5
               intro o6
               show RdM.All _ (match serU o6.c with | some (u1, v1, p1, l1) => _ | none => _) _
               split
               · rename_i u1 v1 p1 l1 hm6
                 intro o7
                 show RdM.All _ (match fltsFrom .f64 o7.c with | some (m, g) => _ | none => _) _
                 split
                 · rename_i m7 g1 hm7
                   intro o8
                   show RdM.All _ (match serU o8.c with | some (u2, v2, p2, l2) => _ | none => _) _
                   split
                   · rename_i u2 v2 p2 l2 hm8
                     intro o9
                     show RdM.All _ (match fltsFrom .f64 o9.c with | some (m, g) => _ | none => _) _
                     split
                     · rename_i m9 g2 hm9
                       intro o10
                       show RdM.All _ (match serU o10.c with | some (u3, v3, p3, l3) => _ | none => _) _
                       split
                       · rename_i u3 v3 p3 l3 hm10
                         intro o11
                         show RdM.All _ (match fltsFrom .f64 o11.c with | some (m, g) => _ | none => _) _
                         split
                         · rename_i m11 g3 hm11
                           intro ho
                           replace ho : m2 = 2 * l ∧ m5 = 2 * l0 ∧ m7 = 2 * l1 ∧ m9 = 2 * l2 ∧ m11 = 2 * l3 ∧ kk = k ∧ hab k l0 l1 l2 l3 ∧ (u0 = pres k 0 10 ∧ u1 = pres k 1 10 ∧ u2 = pres k 2 10 ∧ u3 = pres k 3 10) ∧ mvOkU l sv.1 g dx dy ∧ mvOkU l0 v0.1 g0 dx dy ∧ mvOkU l1 v1.1 g1 dx dy ∧ mvOkU l2 v2.1 g2 dx dy ∧ mvOkU l3 v3.1 g3 dx dy := ho
                           obtain ⟨hsz2, hsz5, hsz7, hsz9, hsz11, ho⟩ := ho
                           subst hsz2
                           subst hsz5
                           subst hsz7
                           subst hsz9
                           subst hsz11
                           refine ⟨?_, _, _, (vc_pMvU k l l0 l1 l2 l3 u0 u1 u2 u3 s h p e0 e1 e2 e3 p0 p1 p2 p3 sv v0 v1 v2 v3 kk dx dy g g0 g1 g2 g3).mpr ?_⟩
                           · change callP _ _ [(P, o0), (s, o1), (p, o2), (h, o3), (e0, o4), (p0, o5), (e1, o6), (p1, o7), (e2, o8), (p2, o9), (e3, o10), (p3, o11)] _
                             refine okFlag_mk rfl ⟨?_, ⟨trivial, polU_spec hm0 sameN_self sameN_self, ⟨trivial, serE_spec hm1 sameN_self, ⟨trivial, (contR_flts hm2).1, ⟨trivial, rgU_spec hm3 sameN_self sameN_self sameN_self sameN_self, ⟨trivial, serU_spec hm4 sameN_self, ⟨trivial, (contR_flts hm5).1, ⟨trivial, serU_spec hm6 sameN_self, ⟨trivial, (contR_flts hm7).1, ⟨trivial, serU_spec hm8 sameN_self, ⟨trivial, (contR_flts hm9).1, ⟨trivial, serU_spec hm10 sameN_self, ⟨trivial, (contR_flts hm11).1, trivial⟩⟩⟩⟩⟩⟩⟩⟩⟩⟩⟩⟩⟩
                             simp [eqvRL, eqvR, fkEq_self, sgSig, fsts, nth, sameN_self]
                           · obtain ⟨rfl, ⟨h4, a0, a1, a2, a3⟩, ⟨rfl, rfl, rfl, rfl⟩, hx, hx0, hx1, hx2, hx3⟩ := ho
                             unfold mvOkU at hx hx0 hx1 hx2 hx3
                             obtain ⟨x, y, z⟩ := hx
                             obtain ⟨x0, y0, z0⟩ := hx0
                             obtain ⟨x1, y1, z1⟩ := hx1
                             obtain ⟨x2, y2, z2⟩ := hx2
                             obtain ⟨x3, y3, z3⟩ := hx3
                             generalize (∀ j, j < 2 * l → fok .add .f64 (g j) (if j % 2 = 0 then dx else dy)) = Y at *
                             generalize (ppBig l sv.1 = true → ppOk (mvI g dx dy l) l) = Z at *
                             generalize (∀ j, j < 2 * l0 → fok .add .f64 (g0 j) (if j % 2 = 0 then dx else dy)) = Y0 at *
                             generalize (ppBig l0 v0.1 = true → ppOk (mvI g0 dx dy l0) l0) = Z0 at *
                             generalize (∀ j, j < 2 * l1 → fok .add .f64 (g1 j) (if j % 2 = 0 then dx else dy)) = Y1 at *
                             generalize (ppBig l1 v1.1 = true → ppOk (mvI g1 dx dy l1) l1) = Z1 at *
                             generalize (∀ j, j < 2 * l2 → fok .add .f64 (g2 j) (if j % 2 = 0 then dx else dy)) = Y2 at *
                             generalize (ppBig l2 v2.1 = true → ppOk (mvI g2 dx dy l2) l2) = Z2 at *
                             generalize (∀ j, j < 2 * l3 → fok .add .f64 (g3 j) (if j % 2 = 0 then dx else dy)) = Y3 at *
                             generalize (ppBig l3 v3.1 = true → ppOk (mvI g3 dx dy l3) l3) = Z3 at *
                             have hk5 : kk = 0 ∨ kk = 1 ∨ kk = 2 ∨ kk = 3 ∨ kk = 4 := by omega
                             clear h4
                             rcases hk5 with rfl | rfl | rfl | rfl | rfl
                             · have e0 := a0 (by decide)
                               have e1 := a1 (by decide)
                               have e2 := a2 (by decide)
                               have e3 := a3 (by decide)
                               subst e0
                               subst e1
                               subst e2
                               subst e3
                               simp [pres, x, y, z]
                             · have e1 := a1 (by decide)
                               have e2 := a2 (by decide)
                               have e3 := a3 (by decide)
                               subst e1
                               subst e2
                               subst e3
                               simp [pres, x, y, z, x0, y0, z0]
                             · have e2 := a2 (by decide)
                               have e3 := a3 (by decide)
                               subst e2
                               subst e3
                               simp [pres, x, y, z, x0, y0, z0, x1, y1, z1]
                             · have e3 := a3 (by decide)
                               subst e3
                               simp [pres, x, y, z, x0, y0, z0, x1, y1, z1, x2, y2, z2]
                             · simp [pres, x, y, z, x0, y0, z0, x1, y1, z1, x2, y2, z2, x3, y3, z3]
                         · trivial
                       · trivial
                     · trivial
                   · trivial
                 · trivial
               · trivial
             · trivial
           · trivial
         · trivial
       · trivial
     · trivial
   · trivial
 · trivial
set_option maxHeartbeats 4000000
def mdOk (cl : Bool) (n : Nat) (g : Nat → Int) (dx dy : Int) : Prop := n < 64 ∧ (ppBig n cl = true → ppOk (fI g) n) ∧ (ppBig n cl = true → ppOk (mvG g n dx dy) n) ∧ (∀ j, j < 2 * n → fok .add .f64 (fI g j) (if j % 2 = 0 then ofI .f64 dx else ofI .f64 dy)) ∧ (∀ j, j < 2 * n → toIok .f64 (mvG g n dx dy j) .i64)
theorem mdOk.mv {cl : Bool} {n : Nat} {g : Nat → Int} {dx dy : Int} (h : mdOk cl n g dx dy) : mvOkU n cl (fI g) (ofI .f64 dx) (ofI .f64 dy) := ⟨h.1, h.2.2.2.1, h.2.2.1⟩
theorem mdOk.le {cl : Bool} {n : Nat} {g : Nat → Int} {dx dy : Int} (h : mdOk cl n g dx dy) : n ≤ 1000000 := by have := h.1; omega
def plS (cl cw cv : Bool) (k : Int) (x y z w n : Nat) (g : Nat → Nat) : Fam := ⟨Nat, fun i =>
 ⟨19, [(0, .ifc 157 (.ptr 0 0)), (3, .slcc 2 i), (4, .int .i64 i)], [(0, ⟨false, 150, serC cl cw cv k x y z w 1 n, 0⟩), (1, ⟨false, 100, .flts .f64 (2 * n) g, 0⟩), (2, ⟨true, 23, .ints .i64 (2 * i) (wI g), 2⟩)], 3⟩, fun i => i ≤ n, fun i => n - i⟩
noncomputable def plainSC : List SV → RdM
 | [.ifc 157 (.ptr s 0)] => .read s fun o0 => (match serOf o0.c with
   | some (cl, cw, cv, k, x, y, z, w, p, n) => .read p fun o1 => (match fltsFrom .f64 o1.c with
   | some (m1, g) => .ret ⟨[.ifc 157 (.ptr 0 0)], [(0, ⟨false, 150, serC cl cw cv k x y z w 1 n, 0⟩), (1, ⟨false, 100, .flts .f64 m1 g, 0⟩)], .slcc 2 n, [], [(2, ⟨true, 23, .ints .i64 (2 * n) (wI g), 2⟩)], some (m1 = 2 * n ∧ n ≤ 1000000 ∧ (∀ j, j < 2 * n → toIok .f64 (g j) .i64))⟩
   | none => .fail)
   | none => .fail)
 | _ => .fail
theorem vc_plainS (cl cw cv : Bool) (k : Int) (x y z w : Nat) (_ : Nm) (n : Nat)  (g : Nat → Nat) : runA GPS 2 [(3, plS cl cw cv k x y z w n g)] [] (codeOf Tryz.f83) (init Tryz.f83.ntmps [.ifc 157 (.ptr 0 0)] [(0, ⟨false, 150, serC cl cw cv k x y z w 1 n, 0⟩), (1, ⟨false, 100, .flts .f64 (2 * n) g, 0⟩)] 2) (endK GPS.E.T Tryz.f83.results.toList fun S v => postP 2 ⟨[.ifc 157 (.ptr 0 0)], [(0, ⟨false, 150, serC cl cw cv k x y z w 1 n, 0⟩), (1, ⟨false, 100, .flts .f64 (2 * n) g, 0⟩)], .slcc 2 n, [], [(2, ⟨true, 23, .ints .i64 (2 * n) (wI g), 2⟩)], some (2 * n = 2 * n ∧ n ≤ 1000000 ∧ (∀ j, j < 2 * n → toIok .f64 (g j) .i64))⟩ S v) = (
(∃ (i : Nat), i ≤ n ∧ ((True ∧ 0 = 0) ∧ i = 0 ∧ 0 = (↑i : Int) ∧ True) ∧ True ∧ (cl = cl ∧ cw = cw ∧ cv = cv ∧ k = k ∧ True ∧ x = x ∧ y = y ∧ z = z ∧ w = w ∧ (True ∧ n = n) ∧ True) ∧ True ∧ (2 * n ≤ 2 *
 n ∧ ∀ (i : Nat), i < 2 * n → g i = g i) ∧ True ∧ 2 * i = 0 ∧ True) ∧ ∀ (i : Nat), i ≤ n → (2 * n = 2 * n ∧ True) ∧ (decide ((↑i : Int) < (↑n : Int)) = true → (2 * n = 2 * n ∧ 0 ≤ (↑i :
 Int) ∧ (↑i : Int) < (↑n : Int)) ∧ (toIok .f64 (g (2 * Int.toNat (↑i : Int))) .i64 ∧ toIok .f64 (g (2 * Int.toNat (↑i : Int) + 1)) .i64) ∧ (2 * i = i * 2 ∧ (i + 1) * 16 ≤
140737488355328 ∧ i + 1 ≤ 9223372036854775807) ∧ ∃ (i' : Nat), i' ≤ n ∧ n - i' < n - i ∧ ((True ∧ 0 = 0) ∧ (True ∧ i + 1 = i') ∧ Go.IntKind.wrap .i64 ((↑i : Int) + 1) = (↑i' : Int) ∧ True) ∧
 True ∧ (cl = cl ∧ cw = cw ∧ cv = cv ∧ k = k ∧ True ∧ x = x ∧ y = y ∧ z = z ∧ w = w ∧ (True ∧ n = n) ∧ True) ∧ True ∧ (2 * n ≤ 2 * n ∧ ∀ (i : Nat), i < 2 * n → g i = g i) ∧ True ∧ (23 = 23 ∧ 2 = 2 ∧ 2 * i' ≤ 2 * i + 2 ∧ ∀ (i_1 : Nat), i_1 < 2 * i' → more (2 * i) (wI g) [toI .f64 (g (2 * Int.toNat (↑i : Int))) .i64, toI .f64 (g (2 * Int.toNat (↑i :
 Int) + 1)) .i64] (0 : Int) i_1 = wI g i_1) ∧ True) ∧ (decide ((↑i : Int) < (↑n : Int)) = false → (True ∧ i = n) ∧ True ∧ (23 = 23 ∧ 2 = 2 ∧ 2 * n ≤ 2 * i ∧ ∀ (i : Nat), i < 2 * n → wI g i = wI g i) ∧ True)) := by kernel_rfl
theorem plainS : ConOk Tryz.prog 83 (conR plainSC) := by
 refine con_of_vc gPS Tryz.func83 rfl (by kernel_rfl) fun args => ?_
 unfold plainSC
 split
 · rename_i s
   intro o0
   show RdM.All _ (match serOf o0.c with | some (cl, cw, cv, k, x, y, z, w, p, n) => _ | none => _) _
   split
   · rename_i cl cw cv k x y z w p n hm0
     intro o1
     show RdM.All _ (match fltsFrom .f64 o1.c with | some (m, g) => _ | none => _) _
     split
     · rename_i m1 g hm1
       intro ho
       replace ho : m1 = 2 * n ∧ n ≤ 1000000 ∧ (∀ j, j < 2 * n → toIok .f64 (g j) .i64) := ho
       obtain ⟨hsz1, ho⟩ := ho
       subst hsz1
       refine ⟨?_, _, _, (vc_plainS cl cw cv k x y z w p n g).mpr ?_⟩
       · refine okFlag_mk rfl ⟨?_, ⟨trivial, serOf_spec hm0 (by simp [sgSig, fsts, nth, sameN_self]), ⟨trivial, (contR_flts hm1).1, trivial⟩⟩⟩
         simp [eqvRL, eqvR, sgSig, fsts, nth, sameN_self]
       · obtain ⟨hn, hf⟩ := ho
         refine ⟨⟨0, by omega, by simp⟩, fun i hi => ?_⟩
         simp only [true_and, and_true, implies_true, Nat.le_refl]
         refine ⟨fun h => ?_, fun h => ?_⟩
         · have h := of_decide_eq_true h
           have hw : IntKind.i64.wrap ((i : Int) + 1) = ((i + 1 : Nat) : Int) := by rw [wrap64 (by omega) (by omega)]; omega
           refine ⟨by omega, ⟨hf _ (by omega), hf _ (by omega)⟩, by omega, i + 1, by omega, by omega, ⟨rfl, hw⟩, ?_, more_two rfl rfl⟩
           show 2 * (i + 1) ≤ 2 * i + 2
           omega
         · have h := of_decide_eq_false h
           omega
     · trivial
   · trivial
 · trivial
noncomputable def GMDU : Ctx := ⟨⟨tys, []⟩, [(63, conR shPUC), (64, conR optsC), (85, conR pMvUC), (83, flatC (conR plainSC))]⟩
theorem gMDU : CtxOk Tryz.prog GMDU := ⟨⟨tysOk, FlatsOk.nil⟩, GamOk.cons shPU (GamOk.cons opts (GamOk.cons pMvU (GamOk.cons (ConOk.flat plainS) GamOk.nil))), by kernel_rfl⟩
noncomputable def moved3C : List SV → RdM
 | [.agg [.int .i64 3, .slcc n len, .slcc h k1], .int .i64 dx, .int .i64 dy] => .read n fun o0 => (match intsFrom .i64 o0.c with
   | some (m0, g) => .read h fun o1 => (match holU o1.c with
   | some (k, q0, l0, q1, l1, q2, l2, q3, l3) => .read q0 fun o2 => (match intsFrom .i64 o2.c with
   | some (m2, g0) => .read q1 fun o3 => (match intsFrom .i64 o3.c with
   | some (m3, g1) => .read q2 fun o4 => (match intsFrom .i64 o4.c with
   | some (m4, g2) => .read q3 fun o5 => (match intsFrom .i64 o5.c with
   | some (m5, g3) => .ret ⟨[.agg [.int .i64 3, .slcc 0 len, .slcc 1 k], .int .i64 dx, .int .i64 dy], [(0, ⟨false, 23, .ints .i64 m0 g, 0⟩), (1, ⟨false, 25, .upto k [.slcc 2 l0, .slcc 3 l1, .slcc 4 l2, .slcc 5 l3], 0⟩), (2, ⟨false, 23, .ints .i64 m2 g0, 0⟩), (3, ⟨false, 23, .ints .i64 m3 g1, 0⟩), (4, ⟨false, 23, .ints .i64 m4 g2, 0⟩), (5, ⟨false, 23, .ints .i64 m5 g3, 0⟩)], .agg [.int .i64 3, .slcc 6 len, .slcc 7 k], [], [(6, ⟨true, 23, .ints .i64 (2 * len) (wI (mvG g len dx dy)), 2⟩), (7, ⟨true, 25, .upto k [.slcc 8 l0, .slcc 9 l1, .slcc 10 l2, .slcc 11 l3], 1⟩), (8, ⟨true, 23, .ints .i64 (2 * l0) (wI (mvG g0 l0 dx dy)), 2⟩), (9, ⟨true, 23, .ints .i64 (2 * l1) (wI (mvG g1 l1 dx dy)), 2⟩), (10, ⟨true, 23, .ints .i64 (2 * l2) (wI (mvG g2 l2 dx dy)), 2⟩), (11, ⟨true, 23, .ints .i64 (2 * l3) (wI (mvG g3 l3 dx dy)), 2⟩)], some (k = k1 ∧ m0 = 2 * len ∧ m2 = 2 * l0 ∧ m3 = 2 * l1 ∧ m4 = 2 * l2 ∧ m5 = 2 * l3 ∧ hab k l0 l1 l2 l3 ∧ mdOk true len g dx dy ∧ mdOk true l0 g0 dx dy ∧ mdOk true l1 g1 dx dy ∧ mdOk true l2 g2 dx dy ∧ mdOk true l3 g3 dx dy)⟩
   | none => .fail)
   | none => .fail)
   | none => .fail)
   | none => .fail)
   | none => .fail)
   | none => .fail)
 | _ => .fail
theorem vc_moved3 (len : Nat) (k l0 l1 l2 l3 : Nat) (_ _ _ _ : Nm) (dx dy : Int)  (g : Nat → Int) (g0 : Nat → Int) (g1 : Nat → Int) (g2 : Nat → Int) (g3 : Nat → Int) : runA GMDU 6 [(19, .iter 5)] [] (codeOf Tryz.f52) (init Tryz.f52.ntmps [.agg [.int .i64 3, .slcc 0 len, .slcc 1 k], .int .i64 dx, .int .i64 dy] [(0, ⟨false, 23, .ints .i64 (2 * len) g, 0⟩), (1, ⟨false, 25, .upto k [.slcc 2 l0, .slcc 3 l1, .slcc 4 l2, .slcc 5 l3], 0⟩), (2, ⟨false, 23, .ints .i64 (2 * l0) g0, 0⟩), (3, ⟨false, 23, .ints .i64 (2 * l1) g1, 0⟩), (4, ⟨false, 23, .ints .i64 (2 * l2) g2, 0⟩), (5, ⟨false, 23, .ints .i64 (2 * l3) g3, 0⟩)] 6) (endK GMDU.E.T Tryz.f52.results.toList fun S v => postP 6 ⟨[.agg [.int .i64 3, .slcc 0 len, .slcc 1 k], .int .i64 dx, .int .i64 dy], [(0, ⟨false, 23, .ints .i64 (2 * len) g, 0⟩), (1, ⟨false, 25, .upto k [.slcc 2 l0, .slcc 3 l1, .slcc 4 l2, .slcc 5 l3], 0⟩), (2, ⟨false, 23, .ints .i64 (2 * l0) g0, 0⟩), (3, ⟨false, 23, .ints .i64 (2 * l1) g1, 0⟩), (4, ⟨false, 23, .ints .i64 (2 * l2) g2, 0⟩), (5, ⟨false, 23, .ints .i64 (2 * l3) g3, 0⟩)], .agg [.int .i64 3, .slcc 6 len, .slcc 7 k], [], [(6, ⟨true, 23, .ints .i64 (2 * len) (wI (mvG g len dx dy)), 2⟩), (7, ⟨true, 25, .upto k [.slcc 8 l0, .slcc 9 l1, .slcc 10 l2, .slcc 11 l3], 1⟩), (8, ⟨true, 23, .ints .i64 (2 * l0) (wI (mvG g0 l0 dx dy)), 2⟩), (9, ⟨true, 23, .ints .i64 (2 * l1) (wI (mvG g1 l1 dx dy)), 2⟩), (10, ⟨true, 23, .ints .i64 (2 * l2) (wI (mvG g2 l2 dx dy)), 2⟩), (11, ⟨true, 23, .ints .i64 (2 * l3) (wI (mvG g3 l3 dx dy)), 2⟩)], some (k = k ∧ 2 * len = 2 * len ∧ 2 * l0 = 2 * l0 ∧ 2 * l1 = 2 * l1 ∧ 2 * l2 = 2 * l2 ∧ 2 * l3 = 2 * l3 ∧ hab k l0 l1 l2 l3 ∧ mdOk true len g dx dy ∧ mdOk true l0 g0 dx dy ∧ mdOk true l1 g1 dx dy ∧ mdOk true l2 g2 dx dy ∧ mdOk true l3 g3 dx dy)⟩ S v) = (
 True ∧ (k = k ∧ 2 * len = 2 * len ∧ 2 * l0 = 2 * l0 ∧ 2 * l1 = 2 * l1 ∧ 2 * l2 = 2 * l2 ∧ 2 * l3 = 2 * l3 ∧ hab k l0 l1 l2 l3 ∧ (0 : Int) = 0 ∧
(len ≤ 1000000 ∧ (ppBig len true = true → ppOk (fI g) len)) ∧ (l0 ≤ 1000000 ∧ (ppBig l0 true = true → ppOk (fI g0) l0)) ∧ (l1
≤ 1000000 ∧ (ppBig l1 true = true → ppOk (fI g1) l1)) ∧ (l2 ≤ 1000000 ∧ (ppBig l2 true = true → ppOk (fI g2) l2)) ∧ l3 ≤
1000000 ∧ (ppBig l3 true = true → ppOk (fI g3) l3)) ∧ true = true ∧ (2 * len = 2 * len ∧ 2 * l0 = 2 * l0 ∧ 2 * l1 = 2 * l1 ∧ 2 * l2
= 2 * l2 ∧ 2 * l3 = 2 * l3 ∧ k = k ∧ hab k l0 l1 l2 l3 ∧ (pres k 0 10 = pres k 0 10 ∧ pres k 1 10 =
 pres k 1 10 ∧ pres k 2 10 = pres k 2 10 ∧ pres k 3 10 = pres k 3 10) ∧
 mvOkU len true (fI g) (ofI .f64 dx) (ofI .f64 dy) ∧ mvOkU l0 true (fI g0) (ofI .f64 dx) (ofI .f64 dy) ∧ mvOkU l1 true
(fI g1) (ofI .f64 dx) (ofI .f64 dy) ∧ mvOkU l2 true (fI g2) (ofI .f64 dx) (ofI .f64 dy) ∧ mvOkU l3 true (fI g3) (ofI .f64 dx)
(ofI .f64 dy)) ∧ (2 * len = 2 * len ∧ len ≤ 1000000 ∧ ∀ (j : Nat), j < 2 * len → toIok .f64 (mvI (fI g) (ofI .f64 dx) (ofI .f64 dy) len j) .i64) ∧ (decide ((0
: Int) < (↑k : Int)) = true → (((0 : Int) ≤ 0 ∧ 0 < (↑k : Int)) ∧ 1 ≤ k) ∧ 1 ≤ k ∧ ((2 * l0 = 2 * l0 ∧ l0 ≤ 1000000 ∧ ∀ (j : Nat), j < 2 * l0 → toIok .f64 (mvI
(fI g0) (ofI .f64 dx) (ofI .f64 dy) l0 j) .i64) ∧ pres k 0 10 = 10) ∧ true = true ∧ (decide (1 < (↑k : Int)) = true → (((0 : Int) ≤ 1 ∧ 1 < (↑k : Int)) ∧
1 ≤ k) ∧ 2 ≤ k ∧ ((2 * l1 = 2 * l1 ∧ l1 ≤ 1000000 ∧ ∀ (j : Nat), j < 2 * l1 → toIok .f64 (mvI (fI g1) (ofI .f64 dx) (ofI .f64 dy) l1 j) .i64) ∧
 pres k 1 10 = 10) ∧ (1 = 1 ∧ 48 ≤ 140737488355328 ∧ 2 ≤ 9223372036854775807) ∧ true = true ∧ (decide (2 < (↑k : Int)) = true → (((0 : Int) ≤ 2 ∧
2 < (↑k : Int)) ∧ 1 ≤ k) ∧ 3 ≤ k ∧ ((2 * l2 = 2 * l2 ∧ l2 ≤ 1000000 ∧ ∀ (j : Nat), j < 2 * l2 → toIok .f64 (mvI (fI g2) (ofI .f64 dx) (ofI
.f64 dy) l2 j) .i64) ∧ pres k 2 10 = 10) ∧ (2 = 2 ∧ 72 ≤ 140737488355328 ∧ 3 ≤ 9223372036854775807) ∧ true = true ∧ (decide (3 < (↑k : Int)) = true →
(((0 : Int) ≤ 3 ∧ 3 < (↑k : Int)) ∧ 1 ≤ k) ∧ 4 ≤ k ∧ ((2 * l3 = 2 * l3 ∧ l3 ≤ 1000000 ∧ ∀ (j : Nat), j < 2 * l3 → toIok .f64 (mvI (fI g3)
(ofI .f64 dx) (ofI .f64 dy) l3 j) .i64) ∧ pres k 3 10 = 10) ∧ (3 = 3 ∧ 96 ≤ 140737488355328 ∧ 4 ≤ 9223372036854775807) ∧ true = true ∧ (decide ((4 :
 Int) < (↑k : Int)) = true → (((0 : Int) ≤ 4 ∧ 4 < (↑k : Int)) ∧ 1 ≤ k) ∧ False) ∧ (decide (4 < (↑k : Int)) = false → ((3 : Int) = 3 ∧ (True ∧ len = len) ∧ (True ∧ 4 = k) ∧ True) ∧ True ∧ (23 =
23 ∧ 2 = 2 ∧ 2 * len ≤ 2 * len ∧ ∀ (i : Nat), i < 2 * len → wI (mvI (fI g) (ofI .f64 dx) (ofI .f64 dy) len) i = wI
(mvG g len dx dy) i) ∧ True ∧ (25 = 25 ∧ 1 = 1 ∧ (True ∧ l0 = l0) ∧ (True ∧ l1 = l1) ∧ (True ∧ l2 = l2) ∧ (True ∧ l3 = l3) ∧ k = 4) ∧ True ∧ (23 = 23 ∧ 2 = 2 ∧
2 * l0 ≤ 2 * l0 ∧ ∀ (i : Nat), i < 2 * l0 → wI (mvI (fI g0) (ofI .f64 dx) (ofI .f64 dy) l0) i = wI (mvG g0 l0 dx dy) i) ∧
 True ∧ (23 = 23 ∧ 2 = 2 ∧ 2 * l1 ≤ 2 * l1 ∧ ∀ (i : Nat), i < 2 * l1 → wI (mvI (fI g1) (ofI .f64 dx) (ofI .f64 dy) l1) i =
 wI (mvG g1 l1 dx dy) i) ∧ True ∧ (23 = 23 ∧ 2 = 2 ∧ 2 * l2 ≤ 2 * l2 ∧ ∀ (i : Nat), i < 2 * l2 → wI (mvI
(fI g2) (ofI .f64 dx) (ofI .f64 dy) l2) i = wI (mvG g2 l2 dx dy) i) ∧ True ∧ (23 = 23 ∧ 2 = 2 ∧ 2 * l3 ≤ 2 * l3 ∧ ∀ (i : Nat), i < 2 * l3 → wI (mvI (fI g3) (ofI .f64 dx) (ofI .f64 dy) l3) i = wI (mvG g3 l3 dx dy) i) ∧ True)) ∧ (decide (3 < (↑k : Int)) = false → ((3 :
 Int) = (3 : Int) ∧ (True ∧ len = len) ∧ (True ∧ 3 = k) ∧ True) ∧ True ∧ (23 = 23 ∧ 2 = 2 ∧ 2 * len ≤ 2 * len ∧ ∀ (i : Nat), i < 2 * len → wI (mvI
(fI g) (ofI .f64 dx) (ofI .f64 dy) len) i = wI (mvG g len dx dy) i) ∧ True ∧ (25 = 25 ∧ 1 = 1 ∧ (True ∧ l0 = l0) ∧ (True ∧ l1 = l1) ∧ (True ∧ l2 = l2) ∧
 k = 3) ∧ True ∧ (23 = 23 ∧ 2 = 2 ∧ 2 * l0 ≤ 2 * l0 ∧ ∀ (i : Nat), i < 2 * l0 → wI (mvI (fI g0) (ofI .f64 dx) (ofI .f64
 dy) l0) i = wI (mvG g0 l0 dx dy) i) ∧ True ∧ (23 = 23 ∧ 2 = 2 ∧ 2 * l1 ≤ 2 * l1 ∧ ∀ (i : Nat), i < 2 * l1 → wI (mvI
(fI g1) (ofI .f64 dx) (ofI .f64 dy) l1) i = wI (mvG g1 l1 dx dy) i) ∧ True ∧ (23 = 23 ∧ 2 = 2 ∧ 2 * l2 ≤ 2 * l2 ∧ ∀ (i : Nat), i < 2 * l2 → wI (mvI (fI g2) (ofI .f64 dx) (ofI .f64 dy) l2) i = wI (mvG g2 l2 dx dy) i) ∧ True ∧ 2 * l3 = 0 ∧ True)) ∧ (decide ((2 :
 Int) < (↑k : Int)) = false → ((3 : Int) = 3 ∧ (True ∧ len = len) ∧ (True ∧ 2 = k) ∧ True) ∧ True ∧ (23 = 23 ∧ 2 = 2 ∧ 2 * len ≤ 2 * len ∧ ∀ (i : Nat), i < 2 * len →
 wI (mvI (fI g) (ofI .f64 dx) (ofI .f64 dy) len) i = wI (mvG g len dx dy) i) ∧ True ∧ (25 = 25 ∧ 1 = 1 ∧ (True ∧ l0 =
 l0) ∧ (True ∧ l1 = l1) ∧ k = 2) ∧ True ∧ (23 = 23 ∧ 2 = 2 ∧ 2 * l0 ≤ 2 * l0 ∧ ∀ (i : Nat), i < 2 * l0 → wI (mvI (fI g0) (ofI
.f64 dx) (ofI .f64 dy) l0) i = wI (mvG g0 l0 dx dy) i) ∧ True ∧ (23 = 23 ∧ 2 = 2 ∧ 2 * l1 ≤ 2 * l1 ∧ ∀ (i : Nat), i < 2 * l1 → wI
(mvI (fI g1) (ofI .f64 dx) (ofI .f64 dy) l1) i = wI (mvG g1 l1 dx dy) i) ∧ True ∧ 2 * l2 = 0 ∧ True ∧ 2 * l3 = 0 ∧ True)) ∧ (decide
(1 < (↑k : Int)) = false → ((3 : Int) = 3 ∧ (True ∧ len = len) ∧ (True ∧ 1 = k) ∧ True) ∧ True ∧ (23 = 23 ∧ 2 = 2 ∧ 2 * len ≤ 2 * len ∧ ∀ (i : Nat), i < 2 * len →
 wI (mvI (fI g) (ofI .f64 dx) (ofI .f64 dy) len) i = wI (mvG g len dx dy) i) ∧ True ∧ (25 = 25 ∧ 1 = 1 ∧ (True ∧ l0 =
 l0) ∧ k = 1) ∧ True ∧ (23 = 23 ∧ 2 = 2 ∧ 2 * l0 ≤ 2 * l0 ∧ ∀ (i : Nat), i < 2 * l0 → wI (mvI (fI g0) (ofI .f64 dx) (ofI
.f64 dy) l0) i = wI (mvG g0 l0 dx dy) i) ∧ True ∧ 2 * l1 = 0 ∧ True ∧ 2 * l2 = 0 ∧ True ∧ 2 * l3 = 0 ∧ True)) ∧ (decide (0 < (↑k : Int)) = false → ((3 : Int)
= (3 : Int) ∧ (True ∧ len = len) ∧ k = 0 ∧ True) ∧ True ∧ (23 = 23 ∧ 2 = 2 ∧ 2 * len ≤ 2 * len ∧ ∀ (i : Nat), i < 2 * len → wI (mvI
(fI g) (ofI .f64 dx) (ofI .f64 dy) len) i = wI (mvG g len dx dy) i) ∧ True ∧ k = 0 ∧ True ∧ 2 * l0 = 0 ∧ True ∧ 2 * l1 = 0 ∧ True ∧ 2 *
 l2 = 0 ∧ True ∧ 2 * l3 = 0 ∧ True)) := by kernel_rfl
theorem moved3 : ConOk Tryz.prog 52 (conR moved3C) := by
 refine con_of_vc gMDU Tryz.func52 rfl (by kernel_rfl) fun args => ?_
 unfold moved3C
 split
 · rename_i n len h k1 dx dy
   intro o0
   show RdM.All _ (match intsFrom .i64 o0.c with | some (m, g) => _ | none => _) _
   split
   · rename_i m0 g hm0
     intro o1
     show RdM.All _ (match holU o1.c with | some (k, q0, l0, q1, l1, q2, l2, q3, l3) => _ | none => _) _
     split
     · rename_i k q0 l0 q1 l1 q2 l2 q3 l3 hm1
       intro o2
       show RdM.All _ (match intsFrom .i64 o2.c with | some (m, g) => _ | none => _) _
       split
       · rename_i m2 g0 hm2
         intro o3
         show RdM.All _ (match intsFrom .i64 o3.c with | some (m, g) => _ | none => _) _
         split
         · rename_i m3 g1 hm3
           intro o4
           show RdM.All _ (match intsFrom .i64 o4.c with | some (m, g) => _ | none => _) _
           split
           · rename_i m4 g2 hm4
             intro o5
             show RdM.All _ (match intsFrom .i64 o5.c with | some (m, g) => _ | none => _) _
             split
             · rename_i m5 g3 hm5
               intro ho
               replace ho : k = k1 ∧ m0 = 2 * len ∧ m2 = 2 * l0 ∧ m3 = 2 * l1 ∧ m4 = 2 * l2 ∧ m5 = 2 * l3 ∧ hab k l0 l1 l2 l3 ∧ mdOk true len g dx dy ∧ mdOk true l0 g0 dx dy ∧ mdOk true l1 g1 dx dy ∧ mdOk true l2 g2 dx dy ∧ mdOk true l3 g3 dx dy := ho
               obtain ⟨heq0, hsz0, hsz2, hsz3, hsz4, hsz5, ho⟩ := ho
               subst heq0
               subst hsz0
               subst hsz2
               subst hsz3
               subst hsz4
               subst hsz5
               refine ⟨?_, _, _, (vc_moved3 len k l0 l1 l2 l3 q0 q1 q2 q3 dx dy g g0 g1 g2 g3).mpr ?_⟩
               · refine okFlag_mk rfl ⟨?_, ⟨trivial, (contR_ints hm0).1, ⟨trivial, holU_spec hm1 sameN_self sameN_self sameN_self sameN_self, ⟨trivial, (contR_ints hm2).1, ⟨trivial, (contR_ints hm3).1, ⟨trivial, (contR_ints hm4).1, ⟨trivial, (contR_ints hm5).1, trivial⟩⟩⟩⟩⟩⟩⟩
                 simp [eqvRL, eqvR, kEq_self, sgSig, fsts, nth, sameN_self]
               · obtain ⟨hab', hx, hx0, hx1, hx2, hx3⟩ := ho
                 obtain ⟨h4, a0, a1, a2, a3⟩ := id hab'
                 have b := hx.le
                 have c := hx.2.1
                 have m' := hx.mv
                 have t := hx.2.2.2.2
                 clear hx
                 have b0 := hx0.le
                 have c0 := hx0.2.1
                 have m0' := hx0.mv
                 have t0 := hx0.2.2.2.2
                 clear hx0
                 have b1 := hx1.le
                 have c1 := hx1.2.1
                 have m1' := hx1.mv
                 have t1 := hx1.2.2.2.2
                 clear hx1
                 have b2 := hx2.le
                 have c2 := hx2.2.1
                 have m2' := hx2.mv
                 have t2 := hx2.2.2.2.2
                 clear hx2
                 have b3 := hx3.le
                 have c3 := hx3.2.1
                 have m3' := hx3.mv
                 have t3 := hx3.2.2.2.2
                 clear hx3
                 unfold mvG at *
                 simp only [hab', true_and]
                 clear hab'
                 generalize (ppBig len true = true → ppOk (fI g) len) = Z at *
                 generalize mvOkU len true (fI g) (ofI .f64 dx) (ofI .f64 dy) = M at *
                 generalize (∀ j, j < 2 * len → toIok .f64 (mvI (fI g) (ofI .f64 dx) (ofI .f64 dy) len j) .i64) = T at *
                 generalize (ppBig l0 true = true → ppOk (fI g0) l0) = Z0 at *
                 generalize mvOkU l0 true (fI g0) (ofI .f64 dx) (ofI .f64 dy) = M0 at *
                 generalize (∀ j, j < 2 * l0 → toIok .f64 (mvI (fI g0) (ofI .f64 dx) (ofI .f64 dy) l0 j) .i64) = T0 at *
                 generalize (ppBig l1 true = true → ppOk (fI g1) l1) = Z1 at *
                 generalize mvOkU l1 true (fI g1) (ofI .f64 dx) (ofI .f64 dy) = M1 at *
                 generalize (∀ j, j < 2 * l1 → toIok .f64 (mvI (fI g1) (ofI .f64 dx) (ofI .f64 dy) l1 j) .i64) = T1 at *
                 generalize (ppBig l2 true = true → ppOk (fI g2) l2) = Z2 at *
                 generalize mvOkU l2 true (fI g2) (ofI .f64 dx) (ofI .f64 dy) = M2 at *
                 generalize (∀ j, j < 2 * l2 → toIok .f64 (mvI (fI g2) (ofI .f64 dx) (ofI .f64 dy) l2 j) .i64) = T2 at *
                 generalize (ppBig l3 true = true → ppOk (fI g3) l3) = Z3 at *
                 generalize mvOkU l3 true (fI g3) (ofI .f64 dx) (ofI .f64 dy) = M3 at *
                 generalize (∀ j, j < 2 * l3 → toIok .f64 (mvI (fI g3) (ofI .f64 dx) (ofI .f64 dy) l3 j) .i64) = T3 at *
                 have hk5 : k = 0 ∨ k = 1 ∨ k = 2 ∨ k = 3 ∨ k = 4 := by omega
                 clear h4
                 rcases hk5 with rfl | rfl | rfl | rfl | rfl
                 · have e0 := a0 (by decide)
                   have e1 := a1 (by decide)
                   have e2 := a2 (by decide)
                   have e3 := a3 (by decide)
                   subst e0
                   subst e1
                   subst e2
                   subst e3
                   simp [pres, b, c, m', t, b0, c0, c1, c2, c3, m0', m1', m2', m3', t0, t1, t2, t3]
                 · have e1 := a1 (by decide)
                   have e2 := a2 (by decide)
                   have e3 := a3 (by decide)
                   subst e1
                   subst e2
                   subst e3
                   simp [pres, b, c, m', t, b0, b1, c0, c1, c2, c3, m0', m1', m2', m3', t0, t1, t2, t3]
                 · have e2 := a2 (by decide)
                   have e3 := a3 (by decide)
                   subst e2
                   subst e3
                   simp [pres, b, c, m', t, b0, b1, b2, c0, c1, c2, c3, m0', m1', m2', m3', t0, t1, t2, t3]
                 · have e3 := a3 (by decide)
                   subst e3
                   simp [pres, b, c, m', t, b0, b1, b2, b3, c0, c1, c2, c3, m0', m1', m2', m3', t0, t1, t2, t3]
                 · simp [pres, b, c, m', t, b0, b1, b2, b3, c0, c1, c2, c3, m0', m1', m2', m3', t0, t1, t2, t3]
             · trivial
           · trivial
         · trivial
       · trivial
     · trivial
   · trivial
 · trivial
set_option maxHeartbeats 1000000
theorem inF_eq (x y z w a b c d : Nat) : (!fLt .f64 a x && !fGt .f64 c z && !fLt .f64 b y && !fGt .f64 d w) = inF x y z w a b c d := rfl
theorem mt4_eq (a b c d p q r s : Nat) : (!(fGt .f64 b s) && !(fLt .f64 d q) && !(fGt .f64 a r) && !(fLt .f64 c p)) = mt4 a b c d p q r s := rfl
noncomputable def GFR : Ctx := ⟨⟨tys, FP⟩, [(163, conR sEmptyC), (192, pureCon rEmptyF), (196, pureCon rNumPF), (164, conR sRectSC), (198, pureCon rRectF), (191, pureCon rInF)]⟩
theorem gFR : CtxOk Tryz.prog GFR := ⟨⟨tysOk, fpOk⟩, GamOk.cons sEmpty (GamOk.cons (.pure rEmpty) (GamOk.cons (.pure rNumP) (GamOk.cons sRectS (GamOk.cons (.pure rRect) (GamOk.cons (.pure rIn) (GamOk.nil)))))), by kernel_rfl⟩
noncomputable def rcrFRC : List SV → RdM
 | [.ifc 157 (.ptr s 0), .ifc 102 (.agg [.flt .f64 a, .flt .f64 b, .flt .f64 c, .flt .f64 d]), v] => .read s fun o0 => (match serOf o0.c with
   | some (cl, cw, cv, k, x, y, z, w, p, n) => .read p fun o1 => (match fltsFrom .f64 o1.c with
   | some (m1, g) => (match v.toB with
   | some al => .ret ⟨[.ifc 157 (.ptr 0 0), .ifc 102 (.agg [.flt .f64 a, .flt .f64 b, .flt .f64 c, .flt .f64 d]), .bool al], [(0, ⟨false, 150, serC cl cw cv k x y z w 1 n, 0⟩), (1, ⟨false, 100, .flts .f64 m1 g, 0⟩)], .ff, [], [], some (m1 = 2 * n ∧ inF x y z w a b c d = false)⟩
   | none => .fail)
   | none => .fail)
   | none => .fail)
 | _ => .fail
theorem vc_rcrFR (cl cw cv : Bool) (k : Int) (x y z w : Nat) (_ : Nm) (n : Nat) (a b c d : Nat) (al : Bool)  (g : Nat → Nat) : runA GFR 2 [] [] (codeOf Tryz.f213) (init Tryz.f213.ntmps [.ifc 157 (.ptr 0 0), .ifc 102 (.agg [.flt .f64 a, .flt .f64 b, .flt .f64 c, .flt .f64 d]), .bool al] [(0, ⟨false, 150, serC cl cw cv k x y z w 1 n, 0⟩), (1, ⟨false, 100, .flts .f64 (2 * n) g, 0⟩)] 2) (endK GFR.E.T Tryz.f213.results.toList fun S v => postP 2 ⟨[.ifc 157 (.ptr 0 0), .ifc 102 (.agg [.flt .f64 a, .flt .f64 b, .flt .f64 c, .flt .f64 d]), .bool al], [(0, ⟨false, 150, serC cl cw cv k x y z w 1 n, 0⟩), (1, ⟨false, 100, .flts .f64 (2 * n) g, 0⟩)], .ff, [], [], some (2 * n = 2 * n ∧ inF x y z w a b c d = false)⟩ S v) = (
(2 * n = 2 * n ∧ True) ∧ (decide (n < 2 ∨ cl = true ∧ n < 3) = true → True ∧ True) ∧ (decide (n < 2 ∨ cl = true ∧ n < 3) = false → (false = true → False) ∧ (false = false → (2 * n = 2 *
 n ∧ True) ∧ ((!(!fLt .f64 a x && !fGt .f64 c z && !fLt .f64 b y && !fGt .f64 d w)) = true → True ∧ True) ∧ ((!(!fLt .f64 a x && !fGt .f64 c z && !fLt .f64 b y && !fGt .f64 d w)) = false → False)))) := by kernel_rfl
theorem rcrFR : ConOk Tryz.prog 213 (conR rcrFRC) := by
 refine con_of_vc gFR Tryz.func213 rfl (by kernel_rfl) fun args => ?_
 unfold rcrFRC
 split
 · rename_i s a b c d v
   intro o0
   show RdM.All _ (match serOf o0.c with | some (cl, cw, cv, k, x, y, z, w, p, n) => _ | none => _) _
   split
   · rename_i cl cw cv k x y z w p n hm0
     intro o1
     show RdM.All _ (match fltsFrom .f64 o1.c with | some (m, g) => _ | none => _) _
     split
     · rename_i m1 g hm1
       show RdM.All _ (match v.toB with | some b => _ | none => _) _
       split
       · rename_i al hal
         intro ho
         replace ho : m1 = 2 * n ∧ inF x y z w a b c d = false := ho
         obtain ⟨hsz1, ho⟩ := ho
         subst hsz1
         refine ⟨?_, _, _, (vc_rcrFR cl cw cv k x y z w p n a b c d al g).mpr ?_⟩
         · refine okFlag_mk rfl ⟨?_, ⟨trivial, serOf_spec hm0 sameN_self, ⟨trivial, (contR_flts hm1).1, trivial⟩⟩⟩
           simp [eqvRL, eqvR, fkEq_self, sgSig, fsts, nth, sameN_self, toB_eqvR hal]
         · simp only [inF_eq, ho]
           simp
       · trivial
     · trivial
   · trivial
 · trivial
noncomputable def GFS : Ctx := ⟨⟨tys, FP⟩, [(163, conR sEmptyC), (205, conR sNumPC), (164, conR sRectSC), (191, pureCon rInF), (213, conR rcrFRC)]⟩
theorem gFS : CtxOk Tryz.prog GFS := ⟨⟨tysOk, fpOk⟩, GamOk.cons sEmpty (GamOk.cons sNumP (GamOk.cons sRectS (GamOk.cons (.pure rIn) (GamOk.cons rcrFR (GamOk.nil))))), by kernel_rfl⟩
noncomputable def rcrFSC : List SV → RdM
 | [.ifc 157 (.ptr s 0), .ifc 157 (.ptr t 0), v] => .read s fun o0 => (match serOf o0.c with
   | some (cl, cw, cv, k, x, y, z, w, p, n) => .read p fun o1 => (match fltsFrom .f64 o1.c with
   | some (m1, g) => .read t fun o2 => (match serOf o2.c with
   | some (cl2, cw2, cv2, k2, x2, y2, z2, w2, p2, n2) => .read p2 fun o3 => (match fltsFrom .f64 o3.c with
   | some (m3, g2) => (match v.toB with
   | some al => .ret ⟨[.ifc 157 (.ptr 0 0), .ifc 157 (.ptr 2 0), .bool al], [(0, ⟨false, 150, serC cl cw cv k x y z w 1 n, 0⟩), (1, ⟨false, 100, .flts .f64 m1 g, 0⟩), (2, ⟨false, 150, serC cl2 cw2 cv2 k2 x2 y2 z2 w2 3 n2, 0⟩), (3, ⟨false, 100, .flts .f64 m3 g2, 0⟩)], .ff, [], [], some (m1 = 2 * n ∧ m3 = 2 * n2 ∧ inF x y z w x2 y2 z2 w2 = false)⟩
   | none => .fail)
   | none => .fail)
   | none => .fail)
   | none => .fail)
   | none => .fail)
 | _ => .fail
theorem vc_rcrFS (cl cw cv : Bool) (k : Int) (x y z w : Nat) (_ : Nm) (n : Nat) (cl2 cw2 cv2 : Bool) (k2 : Int) (x2 y2 z2 w2 : Nat) (_ : Nm) (n2 : Nat) (al : Bool)  (g : Nat → Nat) (g2 : Nat → Nat) : runA GFS 4 [] [] (codeOf Tryz.f213) (init Tryz.f213.ntmps [.ifc 157 (.ptr 0 0), .ifc 157 (.ptr 2 0), .bool al] [(0, ⟨false, 150, serC cl cw cv k x y z w 1 n, 0⟩), (1, ⟨false, 100, .flts .f64 (2 * n) g, 0⟩), (2, ⟨false, 150, serC cl2 cw2 cv2 k2 x2 y2 z2 w2 3 n2, 0⟩), (3, ⟨false, 100, .flts .f64 (2 * n2) g2, 0⟩)] 4) (endK GFS.E.T Tryz.f213.results.toList fun S v => postP 4 ⟨[.ifc 157 (.ptr 0 0), .ifc 157 (.ptr 2 0), .bool al], [(0, ⟨false, 150, serC cl cw cv k x y z w 1 n, 0⟩), (1, ⟨false, 100, .flts .f64 (2 * n) g, 0⟩), (2, ⟨false, 150, serC cl2 cw2 cv2 k2 x2 y2 z2 w2 3 n2, 0⟩), (3, ⟨false, 100, .flts .f64 (2 * n2) g2, 0⟩)], .ff, [], [], some (2 * n = 2 * n ∧ 2 * n2 = 2 * n2 ∧ inF x y z w x2 y2 z2 w2 = false)⟩ S v) = (
(2 * n = 2 * n ∧ True) ∧ (decide (n < 2 ∨ cl = true ∧ n < 3) = true → True ∧ True) ∧ (decide (n < 2 ∨ cl = true ∧ n < 3) = false → (2 * n2 = 2 * n2 ∧ True) ∧ (decide (n2 < 2 ∨
 cl2 = true ∧ n2 < 3) = true → True ∧ True) ∧ (decide (n2 < 2 ∨ cl2 = true ∧ n2 < 3) = false → (2 * n2 = 2 * n2 ∧ True) ∧ (decide (16 ≤ (↑n2 : Int)) = true → (2 * n2 = 2 * n2 ∧ True) ∧
(2 * n = 2 * n ∧ inF x y z w x2 y2 z2 w2 = false) ∧ (2 * n = 2 * n ∧ True) ∧ (2 * n2 = 2 * n2 ∧ True) ∧ ((!(!fLt .f64 x2 x && !fGt .f64 z2 z && !fLt .f64 y2 y &&
!fGt .f64 w2 w)) = true → True ∧ True) ∧ ((!(!fLt .f64 x2 x && !fGt .f64 z2 z && !fLt .f64 y2 y && !fGt .f64 w2 w)) = false → False)) ∧ (decide (16 ≤ (↑n2 : Int)) = false → (2 * n = 2 * n ∧ True)
∧ (2 * n2 = 2 * n2 ∧ True) ∧ ((!(!fLt .f64 x2 x && !fGt .f64 z2 z && !fLt .f64 y2 y && !fGt .f64 w2 w)) = true → True ∧ True) ∧ ((!(!fLt .f64 x2 x && !fGt .f64 z2 z && !fLt .f64 y2 y &&
!fGt .f64 w2 w)) = false → False))))) := by kernel_rfl
theorem rcrFS : ConOk Tryz.prog 213 (conR rcrFSC) := by
 refine con_of_vc gFS Tryz.func213 rfl (by kernel_rfl) fun args => ?_
 unfold rcrFSC
 split
 · rename_i s t v
   intro o0
   show RdM.All _ (match serOf o0.c with | some (cl, cw, cv, k, x, y, z, w, p, n) => _ | none => _) _
   split
   · rename_i cl cw cv k x y z w p n hm0
     intro o1
     show RdM.All _ (match fltsFrom .f64 o1.c with | some (m, g) => _ | none => _) _
     split
     · rename_i m1 g hm1
       intro o2
       show RdM.All _ (match serOf o2.c with | some (cl2, cw2, cv2, k2, x2, y2, z2, w2, p2, n2) => _ | none => _) _
       split
       · rename_i cl2 cw2 cv2 k2 x2 y2 z2 w2 p2 n2 hm2
         intro o3
         show RdM.All _ (match fltsFrom .f64 o3.c with | some (m, g) => _ | none => _) _
         split
         · rename_i m3 g2 hm3
           show RdM.All _ (match v.toB with | some b => _ | none => _) _
           split
           · rename_i al hal
             intro ho
             replace ho : m1 = 2 * n ∧ m3 = 2 * n2 ∧ inF x y z w x2 y2 z2 w2 = false := ho
             obtain ⟨hsz1, hsz3, ho⟩ := ho
             subst hsz1
             subst hsz3
             refine ⟨?_, _, _, (vc_rcrFS cl cw cv k x y z w p n cl2 cw2 cv2 k2 x2 y2 z2 w2 p2 n2 al g g2).mpr ?_⟩
             · refine okFlag_mk rfl ⟨?_, ⟨trivial, serOf_spec hm0 sameN_self, ⟨trivial, (contR_flts hm1).1, ⟨trivial, serOf_spec hm2 sameN_self, ⟨trivial, (contR_flts hm3).1, trivial⟩⟩⟩⟩⟩
               simp [eqvRL, eqvR, sgSig, fsts, nth, sameN_self, toB_eqvR hal]
             · simp only [inF_eq, ho]
               simp
           · trivial
         · trivial
       · trivial
     · trivial
   · trivial
 · trivial
noncomputable def GFL : Ctx := ⟨⟨tys, FP⟩, [(213, conR rcrFSC)]⟩
theorem gFL : CtxOk Tryz.prog GFL := ⟨⟨tysOk, fpOk⟩, GamOk.cons rcrFS (GamOk.nil), by kernel_rfl⟩
noncomputable def rclFC : List SV → RdM
 | [.ifc 157 (.ptr s 0), .ptr t 0, v] => .read s fun o0 => (match serOf o0.c with
   | some (cl, cw, cv, k, x, y, z, w, p, n) => .read p fun o1 => (match fltsFrom .f64 o1.c with
   | some (m1, g) => .read t fun o2 => (match serOf o2.c with
   | some (cl2, cw2, cv2, k2, x2, y2, z2, w2, p2, n2) => .read p2 fun o3 => (match fltsFrom .f64 o3.c with
   | some (m3, g2) => (match v.toB with
   | some al => .ret ⟨[.ifc 157 (.ptr 0 0), .ptr 2 0, .bool al], [(0, ⟨false, 150, serC cl cw cv k x y z w 1 n, 0⟩), (1, ⟨false, 100, .flts .f64 m1 g, 0⟩), (2, ⟨false, 152, serC cl2 cw2 cv2 k2 x2 y2 z2 w2 3 n2, 0⟩), (3, ⟨false, 100, .flts .f64 m3 g2, 0⟩)], .ff, [], [], some (m1 = 2 * n ∧ m3 = 2 * n2 ∧ inF x y z w x2 y2 z2 w2 = false)⟩
   | none => .fail)
   | none => .fail)
   | none => .fail)
   | none => .fail)
   | none => .fail)
 | _ => .fail
theorem vc_rclF (cl cw cv : Bool) (k : Int) (x y z w : Nat) (_ : Nm) (n : Nat) (cl2 cw2 cv2 : Bool) (k2 : Int) (x2 y2 z2 w2 : Nat) (_ : Nm) (n2 : Nat) (al : Bool)  (g : Nat → Nat) (g2 : Nat → Nat) : runA GFL 4 [] [] (codeOf Tryz.f235) (init Tryz.f235.ntmps [.ifc 157 (.ptr 0 0), .ptr 2 0, .bool al] [(0, ⟨false, 150, serC cl cw cv k x y z w 1 n, 0⟩), (1, ⟨false, 100, .flts .f64 (2 * n) g, 0⟩), (2, ⟨false, 152, serC cl2 cw2 cv2 k2 x2 y2 z2 w2 3 n2, 0⟩), (3, ⟨false, 100, .flts .f64 (2 * n2) g2, 0⟩)] 4) (endK GFL.E.T Tryz.f235.results.toList fun S v => postP 4 ⟨[.ifc 157 (.ptr 0 0), .ptr 2 0, .bool al], [(0, ⟨false, 150, serC cl cw cv k x y z w 1 n, 0⟩), (1, ⟨false, 100, .flts .f64 (2 * n) g, 0⟩), (2, ⟨false, 152, serC cl2 cw2 cv2 k2 x2 y2 z2 w2 3 n2, 0⟩), (3, ⟨false, 100, .flts .f64 (2 * n2) g2, 0⟩)], .ff, [], [], some (2 * n = 2 * n ∧ 2 * n2 = 2 * n2 ∧ inF x y z w x2 y2 z2 w2 = false)⟩ S v) = (
(2 * n = 2 * n ∧ 2 * n2 = 2 * n2 ∧ inF x y z w x2 y2 z2 w2 = false) ∧ True ∧ True) := by kernel_rfl
theorem rclF : ConOk Tryz.prog 235 (conR rclFC) := by
 refine con_of_vc gFL Tryz.func235 rfl (by kernel_rfl) fun args => ?_
 unfold rclFC
 split
 · rename_i s t v
   intro o0
   show RdM.All _ (match serOf o0.c with | some (cl, cw, cv, k, x, y, z, w, p, n) => _ | none => _) _
   split
   · rename_i cl cw cv k x y z w p n hm0
     intro o1
     show RdM.All _ (match fltsFrom .f64 o1.c with | some (m, g) => _ | none => _) _
     split
     · rename_i m1 g hm1
       intro o2
       show RdM.All _ (match serOf o2.c with | some (cl2, cw2, cv2, k2, x2, y2, z2, w2, p2, n2) => _ | none => _) _
       split
       · rename_i cl2 cw2 cv2 k2 x2 y2 z2 w2 p2 n2 hm2
         intro o3
         show RdM.All _ (match fltsFrom .f64 o3.c with | some (m, g) => _ | none => _) _
         split
         · rename_i m3 g2 hm3
           show RdM.All _ (match v.toB with | some b => _ | none => _) _
           split
           · rename_i al hal
             intro ho
             replace ho : m1 = 2 * n ∧ m3 = 2 * n2 ∧ inF x y z w x2 y2 z2 w2 = false := ho
             obtain ⟨hsz1, hsz3, ho⟩ := ho
             subst hsz1
             subst hsz3
             refine ⟨?_, _, _, (vc_rclF cl cw cv k x y z w p n cl2 cw2 cv2 k2 x2 y2 z2 w2 p2 n2 al g g2).mpr ?_⟩
             · refine okFlag_mk rfl ⟨?_, ⟨trivial, serOf_spec hm0 sameN_self, ⟨trivial, (contR_flts hm1).1, ⟨trivial, serOf_spec hm2 sameN_self, ⟨trivial, (contR_flts hm3).1, trivial⟩⟩⟩⟩⟩
               simp [eqvRL, eqvR, sgSig, fsts, nth, sameN_self, toB_eqvR hal]
             · simp [ho]
           · trivial
         · trivial
       · trivial
     · trivial
   · trivial
 · trivial
noncomputable def GFI : Ctx := ⟨⟨tys, FP⟩, [(163, conR sEmptyC), (164, conR sRectSC), (175, pureCon rMeetF)]⟩
theorem gFI : CtxOk Tryz.prog GFI := ⟨⟨tysOk, fpOk⟩, GamOk.cons sEmpty (GamOk.cons sRectS (GamOk.cons (.pure rMeet) (GamOk.nil))), by kernel_rfl⟩
noncomputable def rirFC : List SV → RdM
 | [.ifc 157 (.ptr s 0), .ifc 157 (.ptr t 0), v] => .read s fun o0 => (match serOf o0.c with
   | some (cl, cw, cv, k, x, y, z, w, p, n) => .read p fun o1 => (match fltsFrom .f64 o1.c with
   | some (m1, g) => .read t fun o2 => (match serOf o2.c with
   | some (cl2, cw2, cv2, k2, x2, y2, z2, w2, p2, n2) => .read p2 fun o3 => (match fltsFrom .f64 o3.c with
   | some (m3, g2) => (match v.toB with
   | some al => .ret ⟨[.ifc 157 (.ptr 0 0), .ifc 157 (.ptr 2 0), .bool al], [(0, ⟨false, 150, serC cl cw cv k x y z w 1 n, 0⟩), (1, ⟨false, 100, .flts .f64 m1 g, 0⟩), (2, ⟨false, 150, serC cl2 cw2 cv2 k2 x2 y2 z2 w2 3 n2, 0⟩), (3, ⟨false, 100, .flts .f64 m3 g2, 0⟩)], .ff, [], [], some (m1 = 2 * n ∧ m3 = 2 * n2 ∧ mt4 x y z w x2 y2 z2 w2 = false)⟩
   | none => .fail)
   | none => .fail)
   | none => .fail)
   | none => .fail)
   | none => .fail)
 | _ => .fail
theorem vc_rirF (cl cw cv : Bool) (k : Int) (x y z w : Nat) (_ : Nm) (n : Nat) (cl2 cw2 cv2 : Bool) (k2 : Int) (x2 y2 z2 w2 : Nat) (_ : Nm) (n2 : Nat) (al : Bool)  (g : Nat → Nat) (g2 : Nat → Nat) : runA GFI 4 [] [] (codeOf Tryz.f212) (init Tryz.f212.ntmps [.ifc 157 (.ptr 0 0), .ifc 157 (.ptr 2 0), .bool al] [(0, ⟨false, 150, serC cl cw cv k x y z w 1 n, 0⟩), (1, ⟨false, 100, .flts .f64 (2 * n) g, 0⟩), (2, ⟨false, 150, serC cl2 cw2 cv2 k2 x2 y2 z2 w2 3 n2, 0⟩), (3, ⟨false, 100, .flts .f64 (2 * n2) g2, 0⟩)] 4) (endK GFI.E.T Tryz.f212.results.toList fun S v => postP 4 ⟨[.ifc 157 (.ptr 0 0), .ifc 157 (.ptr 2 0), .bool al], [(0, ⟨false, 150, serC cl cw cv k x y z w 1 n, 0⟩), (1, ⟨false, 100, .flts .f64 (2 * n) g, 0⟩), (2, ⟨false, 150, serC cl2 cw2 cv2 k2 x2 y2 z2 w2 3 n2, 0⟩), (3, ⟨false, 100, .flts .f64 (2 * n2) g2, 0⟩)], .ff, [], [], some (2 * n = 2 * n ∧ 2 * n2 = 2 * n2 ∧ mt4 x y z w x2 y2 z2 w2 = false)⟩ S v) = (
(2 * n = 2 * n ∧ True) ∧ (decide (n < 2 ∨ cl = true ∧ n < 3) = true → True ∧ True) ∧ (decide (n < 2 ∨ cl = true ∧ n < 3) = false → (2 * n2 = 2 * n2 ∧ True) ∧ (decide (n2 < 2 ∨
 cl2 = true ∧ n2 < 3) = true → True ∧ True) ∧ (decide (n2 < 2 ∨ cl2 = true ∧ n2 < 3) = false → (2 * n = 2 * n ∧ True) ∧ (2 * n2 = 2 * n2 ∧ True) ∧ ((!(!fGt .f64 y w2 && !fLt .f64 w y2
&& !fGt .f64 x z2 && !fLt .f64 z x2)) = true → True ∧ True) ∧ ((!(!fGt .f64 y w2 && !fLt .f64 w y2 && !fGt .f64 x z2 && !fLt .f64 z x2)) = false → (2 * n2 = 2 * n2 ∧ True) ∧ False)))) := by kernel_rfl
theorem rirF : ConOk Tryz.prog 212 (conR rirFC) := by
 refine con_of_vc gFI Tryz.func212 rfl (by kernel_rfl) fun args => ?_
 unfold rirFC
 split
 · rename_i s t v
   intro o0
   show RdM.All _ (match serOf o0.c with | some (cl, cw, cv, k, x, y, z, w, p, n) => _ | none => _) _
   split
   · rename_i cl cw cv k x y z w p n hm0
     intro o1
     show RdM.All _ (match fltsFrom .f64 o1.c with | some (m, g) => _ | none => _) _
     split
     · rename_i m1 g hm1
       intro o2
       show RdM.All _ (match serOf o2.c with | some (cl2, cw2, cv2, k2, x2, y2, z2, w2, p2, n2) => _ | none => _) _
       split
       · rename_i cl2 cw2 cv2 k2 x2 y2 z2 w2 p2 n2 hm2
         intro o3
         show RdM.All _ (match fltsFrom .f64 o3.c with | some (m, g) => _ | none => _) _
         split
         · rename_i m3 g2 hm3
           show RdM.All _ (match v.toB with | some b => _ | none => _) _
           split
           · rename_i al hal
             intro ho
             replace ho : m1 = 2 * n ∧ m3 = 2 * n2 ∧ mt4 x y z w x2 y2 z2 w2 = false := ho
             obtain ⟨hsz1, hsz3, ho⟩ := ho
             subst hsz1
             subst hsz3
             refine ⟨?_, _, _, (vc_rirF cl cw cv k x y z w p n cl2 cw2 cv2 k2 x2 y2 z2 w2 p2 n2 al g g2).mpr ?_⟩
             · refine okFlag_mk rfl ⟨?_, ⟨trivial, serOf_spec hm0 sameN_self, ⟨trivial, (contR_flts hm1).1, ⟨trivial, serOf_spec hm2 sameN_self, ⟨trivial, (contR_flts hm3).1, trivial⟩⟩⟩⟩⟩
               simp [eqvRL, eqvR, sgSig, fsts, nth, sameN_self, toB_eqvR hal]
             · simp only [mt4_eq, ho]
               simp
           · trivial
         · trivial
       · trivial
     · trivial
   · trivial
 · trivial
noncomputable def rilFC : List SV → RdM
 | [.ifc 157 (.ptr s 0), .ptr t 0, v] => .read s fun o0 => (match serOf o0.c with
   | some (cl, cw, cv, k, x, y, z, w, p, n) => .read p fun o1 => (match fltsFrom .f64 o1.c with
   | some (m1, g) => .read t fun o2 => (match serOf o2.c with
   | some (cl2, cw2, cv2, k2, x2, y2, z2, w2, p2, n2) => .read p2 fun o3 => (match fltsFrom .f64 o3.c with
   | some (m3, g2) => (match v.toB with
   | some al => .ret ⟨[.ifc 157 (.ptr 0 0), .ptr 2 0, .bool al], [(0, ⟨false, 150, serC cl cw cv k x y z w 1 n, 0⟩), (1, ⟨false, 100, .flts .f64 m1 g, 0⟩), (2, ⟨false, 152, serC cl2 cw2 cv2 k2 x2 y2 z2 w2 3 n2, 0⟩), (3, ⟨false, 100, .flts .f64 m3 g2, 0⟩)], .ff, [], [], some (m1 = 2 * n ∧ m3 = 2 * n2 ∧ mt4 x y z w x2 y2 z2 w2 = false)⟩
   | none => .fail)
   | none => .fail)
   | none => .fail)
   | none => .fail)
   | none => .fail)
 | _ => .fail
theorem vc_rilF (cl cw cv : Bool) (k : Int) (x y z w : Nat) (_ : Nm) (n : Nat) (cl2 cw2 cv2 : Bool) (k2 : Int) (x2 y2 z2 w2 : Nat) (_ : Nm) (n2 : Nat) (al : Bool)  (g : Nat → Nat) (g2 : Nat → Nat) : runA GFI 4 [] [] (codeOf Tryz.f201) (init Tryz.f201.ntmps [.ifc 157 (.ptr 0 0), .ptr 2 0, .bool al] [(0, ⟨false, 150, serC cl cw cv k x y z w 1 n, 0⟩), (1, ⟨false, 100, .flts .f64 (2 * n) g, 0⟩), (2, ⟨false, 152, serC cl2 cw2 cv2 k2 x2 y2 z2 w2 3 n2, 0⟩), (3, ⟨false, 100, .flts .f64 (2 * n2) g2, 0⟩)] 4) (endK GFI.E.T Tryz.f201.results.toList fun S v => postP 4 ⟨[.ifc 157 (.ptr 0 0), .ptr 2 0, .bool al], [(0, ⟨false, 150, serC cl cw cv k x y z w 1 n, 0⟩), (1, ⟨false, 100, .flts .f64 (2 * n) g, 0⟩), (2, ⟨false, 152, serC cl2 cw2 cv2 k2 x2 y2 z2 w2 3 n2, 0⟩), (3, ⟨false, 100, .flts .f64 (2 * n2) g2, 0⟩)], .ff, [], [], some (2 * n = 2 * n ∧ 2 * n2 = 2 * n2 ∧ mt4 x y z w x2 y2 z2 w2 = false)⟩ S v) = (
(2 * n = 2 * n ∧ True) ∧ (decide (n < 2 ∨ cl = true ∧ n < 3) = true → True ∧ True) ∧ (decide (n < 2 ∨ cl = true ∧ n < 3) = false → (2 * n2 = 2 * n2 ∧ True) ∧ (decide (n2 < 2 ∨
 cl2 = true ∧ n2 < 3) = true → True ∧ True) ∧ (decide (n2 < 2 ∨ cl2 = true ∧ n2 < 3) = false → (2 * n = 2 * n ∧ True) ∧ (2 * n2 = 2 * n2 ∧ True) ∧ true = true ∧ ((!(!fGt .f64 y w2 &&
!fLt .f64 w y2 && !fGt .f64 x z2 && !fLt .f64 z x2)) = true → True ∧ True) ∧ ((!(!fGt .f64 y w2 && !fLt .f64 w y2 && !fGt .f64 x z2 && !fLt .f64 z x2)) = false → False)))) := by kernel_rfl
theorem rilF : ConOk Tryz.prog 201 (conR rilFC) := by
 refine con_of_vc gFI Tryz.func201 rfl (by kernel_rfl) fun args => ?_
 unfold rilFC
 split
 · rename_i s t v
   intro o0
   show RdM.All _ (match serOf o0.c with | some (cl, cw, cv, k, x, y, z, w, p, n) => _ | none => _) _
   split
   · rename_i cl cw cv k x y z w p n hm0
     intro o1
     show RdM.All _ (match fltsFrom .f64 o1.c with | some (m, g) => _ | none => _) _
     split
     · rename_i m1 g hm1
       intro o2
       show RdM.All _ (match serOf o2.c with | some (cl2, cw2, cv2, k2, x2, y2, z2, w2, p2, n2) => _ | none => _) _
       split
       · rename_i cl2 cw2 cv2 k2 x2 y2 z2 w2 p2 n2 hm2
         intro o3
         show RdM.All _ (match fltsFrom .f64 o3.c with | some (m, g) => _ | none => _) _
         split
         · rename_i m3 g2 hm3
           show RdM.All _ (match v.toB with | some b => _ | none => _) _
           split
           · rename_i al hal
             intro ho
             replace ho : m1 = 2 * n ∧ m3 = 2 * n2 ∧ mt4 x y z w x2 y2 z2 w2 = false := ho
             obtain ⟨hsz1, hsz3, ho⟩ := ho
             subst hsz1
             subst hsz3
             refine ⟨?_, _, _, (vc_rilF cl cw cv k x y z w p n cl2 cw2 cv2 k2 x2 y2 z2 w2 p2 n2 al g g2).mpr ?_⟩
             · refine okFlag_mk rfl ⟨?_, ⟨trivial, serOf_spec hm0 sameN_self, ⟨trivial, (contR_flts hm1).1, ⟨trivial, serOf_spec hm2 sameN_self, ⟨trivial, (contR_flts hm3).1, trivial⟩⟩⟩⟩⟩
               simp [eqvRL, eqvR, sgSig, fsts, nth, sameN_self, toB_eqvR hal]
             · simp only [mt4_eq, ho]
               simp
           · trivial
         · trivial
       · trivial
     · trivial
   · trivial
 · trivial
def polE : Cont → Option Nm
 | .cells [.ifc 157 (.ptr s 0), _] => some s
 | .gen 1 f => match f 0 with
   | .ifc 157 (.ptr s 0) => some s
   | _ => none
 | _ => none
def polC (p : Nm) : Cont := .gen 1 fun _ => .ifc 157 (.ptr p 0)
theorem polE_spec {σ : Sig} {c : Cont} {s p : Nm} (h : polE c = some s) (hs : sameN (σ p) s) : contR σ c (polC p) := by
 unfold polE at h
 split at h
 · simp only [Option.some.injEq] at h
   subst h
   show 1 ≤ 2 ∧ ∀ i, i < 1 → _
   refine ⟨by decide, fun i hi => ?_⟩
   have : i = 0 := by omega
   subst this
   show eqvR σ (.ifc 157 (.ptr _ 0)) (.ifc 157 (.ptr p 0))
   simp [eqvR, hs]
 · rename_i f
   split at h
   · rename_i s' hf
     simp only [Option.some.injEq] at h
     subst h
     refine ⟨Nat.le_refl 1, fun i hi => ?_⟩
     have hi' : i < 1 := hi
     have : i = 0 := by omega
     subst this
     show eqvR σ (f 0) (.ifc 157 (.ptr p 0))
     rw [hf]
     simp [eqvR, hs]
   · cases h
 · cases h
noncomputable def GFC : Ctx := ⟨⟨tys, FP⟩, [(213, conR rcrFSC), (212, conR rirFC), (235, conR rclFC), (201, conR rilFC)]⟩
theorem gFC : CtxOk Tryz.prog GFC := ⟨⟨tysOk, fpOk⟩, GamOk.cons rcrFS (GamOk.cons rirF (GamOk.cons rclF (GamOk.cons rilF (GamOk.nil)))), by kernel_rfl⟩
noncomputable def cpFC : List SV → RdM
 | [.ptr P 0, .ptr Q 0] => .read P fun o0 => (match polE o0.c with
   | some s => .read s fun o1 => (match serOf o1.c with
   | some (cl, cw, cv, k, x, y, z, w, p, n) => .read p fun o2 => (match fltsFrom .f64 o2.c with
   | some (m2, g) => .read Q fun o3 => (match polE o3.c with
   | some t => .read t fun o4 => (match serOf o4.c with
   | some (cl2, cw2, cv2, k2, x2, y2, z2, w2, p2, n2) => .read p2 fun o5 => (match fltsFrom .f64 o5.c with
   | some (m5, g2) => .ret ⟨[.ptr 0 0, .ptr 3 0], [(0, ⟨false, 137, polC 1, 0⟩), (1, ⟨false, 150, serC cl cw cv k x y z w 2 n, 0⟩), (2, ⟨false, 100, .flts .f64 m2 g, 0⟩), (3, ⟨false, 137, polC 4, 0⟩), (4, ⟨false, 150, serC cl2 cw2 cv2 k2 x2 y2 z2 w2 5 n2, 0⟩), (5, ⟨false, 100, .flts .f64 m5 g2, 0⟩)], .ff, [], [], some (m2 = 2 * n ∧ m5 = 2 * n2 ∧ inF x y z w x2 y2 z2 w2 = false)⟩
   | none => .fail)
   | none => .fail)
   | none => .fail)
   | none => .fail)
   | none => .fail)
   | none => .fail)
 | _ => .fail
theorem vc_cpF (cl cw cv : Bool) (k : Int) (x y z w : Nat) (_ : Nm) (n : Nat) (cl2 cw2 cv2 : Bool) (k2 : Int) (x2 y2 z2 w2 : Nat) (_ : Nm) (n2 : Nat) (_ _ : Nm)  (g : Nat → Nat) (g2 : Nat → Nat) : runA GFC 6 [] [] (codeOf Tryz.f238) (init Tryz.f238.ntmps [.ptr 0 0, .ptr 3 0] [(0, ⟨false, 137, polC 1, 0⟩), (1, ⟨false, 150, serC cl cw cv k x y z w 2 n, 0⟩), (2, ⟨false, 100, .flts .f64 (2 * n) g, 0⟩), (3, ⟨false, 137, polC 4, 0⟩), (4, ⟨false, 150, serC cl2 cw2 cv2 k2 x2 y2 z2 w2 5 n2, 0⟩), (5, ⟨false, 100, .flts .f64 (2 * n2) g2, 0⟩)] 6) (endK GFC.E.T Tryz.f238.results.toList fun S v => postP 6 ⟨[.ptr 0 0, .ptr 3 0], [(0, ⟨false, 137, polC 1, 0⟩), (1, ⟨false, 150, serC cl cw cv k x y z w 2 n, 0⟩), (2, ⟨false, 100, .flts .f64 (2 * n) g, 0⟩), (3, ⟨false, 137, polC 4, 0⟩), (4, ⟨false, 150, serC cl2 cw2 cv2 k2 x2 y2 z2 w2 5 n2, 0⟩), (5, ⟨false, 100, .flts .f64 (2 * n2) g2, 0⟩)], .ff, [], [], some (2 * n = 2 * n ∧ 2 * n2 = 2 * n2 ∧ inF x y z w x2 y2 z2 w2 = false)⟩ S v) = (
0 < 1 ∧ 0 < 1 ∧ 0 < 1 ∧ 1 ≤ 1 ∧ 0 < 1 ∧ 0 < 1 ∧ 0 < 1 ∧ 1 ≤ 1 ∧ 0 < 1 ∧ 0 < 1 ∧ 1
≤ 1 ∧ 0 < 1 ∧ 0 < 1 ∧ 1 ≤ 1 ∧ (2 * n = 2 * n ∧ 2 * n2 = 2 * n2 ∧ inF x y z w x2 y2 z2 w2 = false) ∧ true = true ∧ True ∧ True) := by kernel_rfl
theorem cpF : ConOk Tryz.prog 238 (conR cpFC) := by
 refine con_of_vc gFC Tryz.func238 rfl (by kernel_rfl) fun args => ?_
 unfold cpFC
 split
 · rename_i P Q
   intro o0
   show RdM.All _ (match polE o0.c with | some s => _ | none => _) _
   split
   · rename_i s hm0
     intro o1
     show RdM.All _ (match serOf o1.c with | some (cl, cw, cv, k, x, y, z, w, p, n) => _ | none => _) _
     split
     · rename_i cl cw cv k x y z w p n hm1
       intro o2
       show RdM.All _ (match fltsFrom .f64 o2.c with | some (m, g) => _ | none => _) _
       split
       · rename_i m2 g hm2
         intro o3
         show RdM.All _ (match polE o3.c with | some t => _ | none => _) _
         split
         · rename_i t hm3
           intro o4
           show RdM.All _ (match serOf o4.c with | some (cl2, cw2, cv2, k2, x2, y2, z2, w2, p2, n2) => _ | none => _) _
           split
           · rename_i cl2 cw2 cv2 k2 x2 y2 z2 w2 p2 n2 hm4
             intro o5
             show RdM.All _ (match fltsFrom .f64 o5.c with | some (m, g) => _ | none => _) _
             split
             · rename_i m5 g2 hm5
               intro ho
               replace ho : m2 = 2 * n ∧ m5 = 2 * n2 ∧ inF x y z w x2 y2 z2 w2 = false := ho
               obtain ⟨hsz2, hsz5, ho⟩ := ho
               subst hsz2
               subst hsz5
               refine ⟨?_, _, _, (vc_cpF cl cw cv k x y z w p n cl2 cw2 cv2 k2 x2 y2 z2 w2 p2 n2 s t g g2).mpr ?_⟩
               · refine okFlag_mk rfl ⟨?_, ⟨fun _ _ => rfl, polE_spec hm0 sameN_self, ⟨trivial, serOf_spec hm1 sameN_self, ⟨trivial, (contR_flts hm2).1, ⟨fun _ _ => rfl, polE_spec hm3 sameN_self, ⟨trivial, serOf_spec hm4 sameN_self, ⟨trivial, (contR_flts hm5).1, trivial⟩⟩⟩⟩⟩⟩⟩
                 simp [eqvRL, eqvR, sgSig, fsts, nth, sameN_self]
               · simp [ho]
             · trivial
           · trivial
         · trivial
       · trivial
     · trivial
   · trivial
 · trivial
noncomputable def ipFC : List SV → RdM
 | [.ptr P 0, .ptr Q 0] => .read P fun o0 => (match polE o0.c with
   | some s => .read s fun o1 => (match serOf o1.c with
   | some (cl, cw, cv, k, x, y, z, w, p, n) => .read p fun o2 => (match fltsFrom .f64 o2.c with
   | some (m2, g) => .read Q fun o3 => (match polE o3.c with
   | some t => .read t fun o4 => (match serOf o4.c with
   | some (cl2, cw2, cv2, k2, x2, y2, z2, w2, p2, n2) => .read p2 fun o5 => (match fltsFrom .f64 o5.c with
   | some (m5, g2) => .ret ⟨[.ptr 0 0, .ptr 3 0], [(0, ⟨false, 137, polC 1, 0⟩), (1, ⟨false, 150, serC cl cw cv k x y z w 2 n, 0⟩), (2, ⟨false, 100, .flts .f64 m2 g, 0⟩), (3, ⟨false, 137, polC 4, 0⟩), (4, ⟨false, 150, serC cl2 cw2 cv2 k2 x2 y2 z2 w2 5 n2, 0⟩), (5, ⟨false, 100, .flts .f64 m5 g2, 0⟩)], .ff, [], [], some (m2 = 2 * n ∧ m5 = 2 * n2 ∧ mt4 x2 y2 z2 w2 x y z w = false)⟩
   | none => .fail)
   | none => .fail)
   | none => .fail)
   | none => .fail)
   | none => .fail)
   | none => .fail)
 | _ => .fail
theorem vc_ipF (cl cw cv : Bool) (k : Int) (x y z w : Nat) (_ : Nm) (n : Nat) (cl2 cw2 cv2 : Bool) (k2 : Int) (x2 y2 z2 w2 : Nat) (_ : Nm) (n2 : Nat) (_ _ : Nm)  (g : Nat → Nat) (g2 : Nat → Nat) : runA GFC 6 [] [] (codeOf Tryz.f208) (init Tryz.f208.ntmps [.ptr 0 0, .ptr 3 0] [(0, ⟨false, 137, polC 1, 0⟩), (1, ⟨false, 150, serC cl cw cv k x y z w 2 n, 0⟩), (2, ⟨false, 100, .flts .f64 (2 * n) g, 0⟩), (3, ⟨false, 137, polC 4, 0⟩), (4, ⟨false, 150, serC cl2 cw2 cv2 k2 x2 y2 z2 w2 5 n2, 0⟩), (5, ⟨false, 100, .flts .f64 (2 * n2) g2, 0⟩)] 6) (endK GFC.E.T Tryz.f208.results.toList fun S v => postP 6 ⟨[.ptr 0 0, .ptr 3 0], [(0, ⟨false, 137, polC 1, 0⟩), (1, ⟨false, 150, serC cl cw cv k x y z w 2 n, 0⟩), (2, ⟨false, 100, .flts .f64 (2 * n) g, 0⟩), (3, ⟨false, 137, polC 4, 0⟩), (4, ⟨false, 150, serC cl2 cw2 cv2 k2 x2 y2 z2 w2 5 n2, 0⟩), (5, ⟨false, 100, .flts .f64 (2 * n2) g2, 0⟩)], .ff, [], [], some (2 * n = 2 * n ∧ 2 * n2 = 2 * n2 ∧ mt4 x2 y2 z2 w2 x y z w = false)⟩ S v) = (
0 < 1 ∧ 0 < 1 ∧ 0 < 1 ∧ 1 ≤ 1 ∧ 0 < 1 ∧ 0 < 1 ∧ 0 < 1 ∧ 1 ≤ 1 ∧ 0 < 1 ∧ 0 < 1 ∧ 1
≤ 1 ∧ 0 < 1 ∧ 0 < 1 ∧ 1 ≤ 1 ∧ (2 * n2 = 2 * n2 ∧ 2 * n = 2 * n ∧ mt4 x2 y2 z2 w2 x y z w = false) ∧ true = true ∧ True ∧ True) := by kernel_rfl
theorem ipF : ConOk Tryz.prog 208 (conR ipFC) := by
 refine con_of_vc gFC Tryz.func208 rfl (by kernel_rfl) fun args => ?_
 unfold ipFC
 split
 · rename_i P Q
   intro o0
   show RdM.All _ (match polE o0.c with | some s => _ | none => _) _
   split
   · rename_i s hm0
     intro o1
     show RdM.All _ (match serOf o1.c with | some (cl, cw, cv, k, x, y, z, w, p, n) => _ | none => _) _
     split
     · rename_i cl cw cv k x y z w p n hm1
       intro o2
       show RdM.All _ (match fltsFrom .f64 o2.c with | some (m, g) => _ | none => _) _
       split
       · rename_i m2 g hm2
         intro o3
         show RdM.All _ (match polE o3.c with | some t => _ | none => _) _
         split
         · rename_i t hm3
           intro o4
           show RdM.All _ (match serOf o4.c with | some (cl2, cw2, cv2, k2, x2, y2, z2, w2, p2, n2) => _ | none => _) _
           split
           · rename_i cl2 cw2 cv2 k2 x2 y2 z2 w2 p2 n2 hm4
             intro o5
             show RdM.All _ (match fltsFrom .f64 o5.c with | some (m, g) => _ | none => _) _
             split
             · rename_i m5 g2 hm5
               intro ho
               replace ho : m2 = 2 * n ∧ m5 = 2 * n2 ∧ mt4 x2 y2 z2 w2 x y z w = false := ho
               obtain ⟨hsz2, hsz5, ho⟩ := ho
               subst hsz2
               subst hsz5
               refine ⟨?_, _, _, (vc_ipF cl cw cv k x y z w p n cl2 cw2 cv2 k2 x2 y2 z2 w2 p2 n2 s t g g2).mpr ?_⟩
               · refine okFlag_mk rfl ⟨?_, ⟨fun _ _ => rfl, polE_spec hm0 sameN_self, ⟨trivial, serOf_spec hm1 sameN_self, ⟨trivial, (contR_flts hm2).1, ⟨fun _ _ => rfl, polE_spec hm3 sameN_self, ⟨trivial, serOf_spec hm4 sameN_self, ⟨trivial, (contR_flts hm5).1, trivial⟩⟩⟩⟩⟩⟩⟩
                 simp [eqvRL, eqvR, sgSig, fsts, nth, sameN_self]
               · simp [ho]
             · trivial
           · trivial
         · trivial
       · trivial
     · trivial
   · trivial
 · trivial
noncomputable def clFC : List SV → RdM
 | [.ptr P 0, .ptr l 0] => .read P fun o0 => (match polE o0.c with
   | some s => .read s fun o1 => (match serOf o1.c with
   | some (cl, cw, cv, k, x, y, z, w, p, n) => .read p fun o2 => (match fltsFrom .f64 o2.c with
   | some (m2, g) => .read l fun o3 => (match serOf o3.c with
   | some (cl2, cw2, cv2, k2, x2, y2, z2, w2, p2, n2) => .read p2 fun o4 => (match fltsFrom .f64 o4.c with
   | some (m4, g2) => .ret ⟨[.ptr 0 0, .ptr 3 0], [(0, ⟨false, 137, polC 1, 0⟩), (1, ⟨false, 150, serC cl cw cv k x y z w 2 n, 0⟩), (2, ⟨false, 100, .flts .f64 m2 g, 0⟩), (3, ⟨false, 152, serC cl2 cw2 cv2 k2 x2 y2 z2 w2 4 n2, 0⟩), (4, ⟨false, 100, .flts .f64 m4 g2, 0⟩)], .ff, [], [], some (m2 = 2 * n ∧ m4 = 2 * n2 ∧ inF x y z w x2 y2 z2 w2 = false)⟩
   | none => .fail)
   | none => .fail)
   | none => .fail)
   | none => .fail)
   | none => .fail)
 | _ => .fail
theorem vc_clF (cl cw cv : Bool) (k : Int) (x y z w : Nat) (_ : Nm) (n : Nat) (cl2 cw2 cv2 : Bool) (k2 : Int) (x2 y2 z2 w2 : Nat) (_ : Nm) (n2 : Nat) (_ : Nm)  (g : Nat → Nat) (g2 : Nat → Nat) : runA GFC 5 [] [] (codeOf Tryz.f237) (init Tryz.f237.ntmps [.ptr 0 0, .ptr 3 0] [(0, ⟨false, 137, polC 1, 0⟩), (1, ⟨false, 150, serC cl cw cv k x y z w 2 n, 0⟩), (2, ⟨false, 100, .flts .f64 (2 * n) g, 0⟩), (3, ⟨false, 152, serC cl2 cw2 cv2 k2 x2 y2 z2 w2 4 n2, 0⟩), (4, ⟨false, 100, .flts .f64 (2 * n2) g2, 0⟩)] 5) (endK GFC.E.T Tryz.f237.results.toList fun S v => postP 5 ⟨[.ptr 0 0, .ptr 3 0], [(0, ⟨false, 137, polC 1, 0⟩), (1, ⟨false, 150, serC cl cw cv k x y z w 2 n, 0⟩), (2, ⟨false, 100, .flts .f64 (2 * n) g, 0⟩), (3, ⟨false, 152, serC cl2 cw2 cv2 k2 x2 y2 z2 w2 4 n2, 0⟩), (4, ⟨false, 100, .flts .f64 (2 * n2) g2, 0⟩)], .ff, [], [], some (2 * n = 2 * n ∧ 2 * n2 = 2 * n2 ∧ inF x y z w x2 y2 z2 w2 = false)⟩ S v) = (
0 < 1 ∧ 0 < 1 ∧ 0 < 1 ∧ 1 ≤ 1 ∧ 0 < 1 ∧ 0 < 1 ∧ 1 ≤ 1 ∧ (2 * n = 2 * n ∧ 2 * n2 = 2 * n2 ∧
 inF x y z w x2 y2 z2 w2 = false) ∧ True ∧ True) := by kernel_rfl
theorem clF : ConOk Tryz.prog 237 (conR clFC) := by
 refine con_of_vc gFC Tryz.func237 rfl (by kernel_rfl) fun args => ?_
 unfold clFC
 split
 · rename_i P l
   intro o0
   show RdM.All _ (match polE o0.c with | some s => _ | none => _) _
   split
   · rename_i s hm0
     intro o1
     show RdM.All _ (match serOf o1.c with | some (cl, cw, cv, k, x, y, z, w, p, n) => _ | none => _) _
     split
     · rename_i cl cw cv k x y z w p n hm1
       intro o2
       show RdM.All _ (match fltsFrom .f64 o2.c with | some (m, g) => _ | none => _) _
       split
       · rename_i m2 g hm2
         intro o3
         show RdM.All _ (match serOf o3.c with | some (cl2, cw2, cv2, k2, x2, y2, z2, w2, p2, n2) => _ | none => _) _
         split
         · rename_i cl2 cw2 cv2 k2 x2 y2 z2 w2 p2 n2 hm3
           intro o4
           show RdM.All _ (match fltsFrom .f64 o4.c with | some (m, g) => _ | none => _) _
           split
           · rename_i m4 g2 hm4
             intro ho
             replace ho : m2 = 2 * n ∧ m4 = 2 * n2 ∧ inF x y z w x2 y2 z2 w2 = false := ho
             obtain ⟨hsz2, hsz4, ho⟩ := ho
             subst hsz2
             subst hsz4
             refine ⟨?_, _, _, (vc_clF cl cw cv k x y z w p n cl2 cw2 cv2 k2 x2 y2 z2 w2 p2 n2 s g g2).mpr ?_⟩
             · refine okFlag_mk rfl ⟨?_, ⟨fun _ _ => rfl, polE_spec hm0 sameN_self, ⟨trivial, serOf_spec hm1 sameN_self, ⟨trivial, (contR_flts hm2).1, ⟨trivial, serOf_spec hm3 sameN_self, ⟨trivial, (contR_flts hm4).1, trivial⟩⟩⟩⟩⟩⟩
               simp [eqvRL, eqvR, sgSig, fsts, nth, sameN_self]
             · simp [ho]
           · trivial
         · trivial
       · trivial
     · trivial
   · trivial
 · trivial
noncomputable def ilFC : List SV → RdM
 | [.ptr P 0, .ptr l 0] => .read P fun o0 => (match polE o0.c with
   | some s => .read s fun o1 => (match serOf o1.c with
   | some (cl, cw, cv, k, x, y, z, w, p, n) => .read p fun o2 => (match fltsFrom .f64 o2.c with
   | some (m2, g) => .read l fun o3 => (match serOf o3.c with
   | some (cl2, cw2, cv2, k2, x2, y2, z2, w2, p2, n2) => .read p2 fun o4 => (match fltsFrom .f64 o4.c with
   | some (m4, g2) => .ret ⟨[.ptr 0 0, .ptr 3 0], [(0, ⟨false, 137, polC 1, 0⟩), (1, ⟨false, 150, serC cl cw cv k x y z w 2 n, 0⟩), (2, ⟨false, 100, .flts .f64 m2 g, 0⟩), (3, ⟨false, 152, serC cl2 cw2 cv2 k2 x2 y2 z2 w2 4 n2, 0⟩), (4, ⟨false, 100, .flts .f64 m4 g2, 0⟩)], .ff, [], [], some (m2 = 2 * n ∧ m4 = 2 * n2 ∧ mt4 x y z w x2 y2 z2 w2 = false)⟩
   | none => .fail)
   | none => .fail)
   | none => .fail)
   | none => .fail)
   | none => .fail)
 | _ => .fail
theorem vc_ilF (cl cw cv : Bool) (k : Int) (x y z w : Nat) (_ : Nm) (n : Nat) (cl2 cw2 cv2 : Bool) (k2 : Int) (x2 y2 z2 w2 : Nat) (_ : Nm) (n2 : Nat) (_ : Nm)  (g : Nat → Nat) (g2 : Nat → Nat) : runA GFC 5 [] [] (codeOf Tryz.f233) (init Tryz.f233.ntmps [.ptr 0 0, .ptr 3 0] [(0, ⟨false, 137, polC 1, 0⟩), (1, ⟨false, 150, serC cl cw cv k x y z w 2 n, 0⟩), (2, ⟨false, 100, .flts .f64 (2 * n) g, 0⟩), (3, ⟨false, 152, serC cl2 cw2 cv2 k2 x2 y2 z2 w2 4 n2, 0⟩), (4, ⟨false, 100, .flts .f64 (2 * n2) g2, 0⟩)] 5) (endK GFC.E.T Tryz.f233.results.toList fun S v => postP 5 ⟨[.ptr 0 0, .ptr 3 0], [(0, ⟨false, 137, polC 1, 0⟩), (1, ⟨false, 150, serC cl cw cv k x y z w 2 n, 0⟩), (2, ⟨false, 100, .flts .f64 (2 * n) g, 0⟩), (3, ⟨false, 152, serC cl2 cw2 cv2 k2 x2 y2 z2 w2 4 n2, 0⟩), (4, ⟨false, 100, .flts .f64 (2 * n2) g2, 0⟩)], .ff, [], [], some (2 * n = 2 * n ∧ 2 * n2 = 2 * n2 ∧ mt4 x y z w x2 y2 z2 w2 = false)⟩ S v) = (
0 < 1 ∧ 0 < 1 ∧ 0 < 1 ∧ 1 ≤ 1 ∧ 0 < 1 ∧ 0 < 1 ∧ 1 ≤ 1 ∧ (2 * n = 2 * n ∧ 2 * n2 = 2 * n2 ∧
 mt4 x y z w x2 y2 z2 w2 = false) ∧ True ∧ True) := by kernel_rfl
theorem ilF : ConOk Tryz.prog 233 (conR ilFC) := by
 refine con_of_vc gFC Tryz.func233 rfl (by kernel_rfl) fun args => ?_
 unfold ilFC
 split
 · rename_i P l
   intro o0
   show RdM.All _ (match polE o0.c with | some s => _ | none => _) _
   split
   · rename_i s hm0
     intro o1
     show RdM.All _ (match serOf o1.c with | some (cl, cw, cv, k, x, y, z, w, p, n) => _ | none => _) _
     split
     · rename_i cl cw cv k x y z w p n hm1
       intro o2
       show RdM.All _ (match fltsFrom .f64 o2.c with | some (m, g) => _ | none => _) _
       split
       · rename_i m2 g hm2
         intro o3
         show RdM.All _ (match serOf o3.c with | some (cl2, cw2, cv2, k2, x2, y2, z2, w2, p2, n2) => _ | none => _) _
         split
         · rename_i cl2 cw2 cv2 k2 x2 y2 z2 w2 p2 n2 hm3
           intro o4
           show RdM.All _ (match fltsFrom .f64 o4.c with | some (m, g) => _ | none => _) _
           split
           · rename_i m4 g2 hm4
             intro ho
             replace ho : m2 = 2 * n ∧ m4 = 2 * n2 ∧ mt4 x y z w x2 y2 z2 w2 = false := ho
             obtain ⟨hsz2, hsz4, ho⟩ := ho
             subst hsz2
             subst hsz4
             refine ⟨?_, _, _, (vc_ilF cl cw cv k x y z w p n cl2 cw2 cv2 k2 x2 y2 z2 w2 p2 n2 s g g2).mpr ?_⟩
             · refine okFlag_mk rfl ⟨?_, ⟨fun _ _ => rfl, polE_spec hm0 sameN_self, ⟨trivial, serOf_spec hm1 sameN_self, ⟨trivial, (contR_flts hm2).1, ⟨trivial, serOf_spec hm3 sameN_self, ⟨trivial, (contR_flts hm4).1, trivial⟩⟩⟩⟩⟩⟩
               simp [eqvRL, eqvR, sgSig, fsts, nth, sameN_self]
             · simp [ho]
           · trivial
         · trivial
       · trivial
     · trivial
   · trivial
 · trivial
set_option maxHeartbeats 1000000
def W22 (x : Nat) : Prop := FI x (wh x) ∧ (wh x).natAbs ≤ 2 ^ 22
def FL2 (g : Nat → Nat) (m : Nat) : Prop := ∀ j, j < m → W22 (g j)
theorem pw22 {a b c d e f : Nat} (ha : W22 a) (hb : W22 b) (hc : W22 c) (hd : W22 d) (he : W22 e) (hf : W22 f) : PW a b c d e f :=
 ⟨ha.1, hb.1, hc.1, hd.1, he.1, hf.1, ha.2, hb.2, hc.2, hd.2, he.2, hf.2⟩
theorem W1.w22 {x : Nat} (h : W1 x) : W22 x := ⟨h.1, h.abs⟩
noncomputable def sNumWC : List SV → RdM
 | [.ptr s 0] => .read s fun o0 => (match serOf o0.c with
   | some (cl, cw, cv, k, x, y, z, w, p, n) => .read p fun o1 => (match fltsFrom .f64 o1.c with
   | some (m1, g) => .ret ⟨[.ptr 0 0], [(0, ⟨false, 150, serC cl cw cv k x y z w 1 n, 0⟩), (1, ⟨false, 100, .flts .f64 m1 g, 0⟩)], .int .i64 (nsg cl n (wz g)), [], [], some (m1 = 2 * n ∧ n ≤ 1000000 ∧ FL2 g (2 * n))⟩
   | none => .fail)
   | none => .fail)
 | _ => .fail
theorem vc_sNumW (cl cw cv : Bool) (k : Int) (x y z w : Nat) (_ : Nm) (n : Nat)  (g : Nat → Nat) : runA GPF 2 [] [] (codeOf Tryz.f111) (init Tryz.f111.ntmps [.ptr 0 0] [(0, ⟨false, 150, serC cl cw cv k x y z w 1 n, 0⟩), (1, ⟨false, 100, .flts .f64 (2 * n) g, 0⟩)] 2) (endK GPF.E.T Tryz.f111.results.toList fun S v => postP 2 ⟨[.ptr 0 0], [(0, ⟨false, 150, serC cl cw cv k x y z w 1 n, 0⟩), (1, ⟨false, 100, .flts .f64 (2 * n) g, 0⟩)], .int .i64 (nsg cl n (wz g)), [], [], some (2 * n = 2 * n ∧ n ≤ 1000000 ∧ FL2 g (2 * n))⟩ S v) = (
(cl = true → (decide ((↑n : Int) < 3) = true → 0 = (↑(nsg cl n (wz g)) : Int) ∧ True) ∧ (decide ((↑n : Int) < 3) = false → (((0 : Int) ≤ Go.IntKind.wrap .i64 ((↑n : Int) - 1) ∧
 Go.IntKind.wrap .i64 ((↑n : Int) - 1) < (↑n : Int)) ∧ 1 ≤ 2 * n) ∧ 0 + Int.toNat (Go.IntKind.wrap .i64 ((↑n : Int) - 1)) * 2 + 2 ≤ 2 * n ∧ (((0 : Int) ≤ 0 ∧ 0 < (↑n :
 Int)) ∧ 1 ≤ 2 * n) ∧ 2 ≤ 2 * n ∧ true = true ∧ ((fEq .f64 (g (0 + Int.toNat (Go.IntKind.wrap .i64 ((↑n : Int) - 1)) * 2)) (g 0) && (fEq .f64 (g (0 + Int.toNat
(Go.IntKind.wrap .i64 ((↑n : Int) - 1)) * 2 + 1)) (g 1) && true)) = true → Go.IntKind.wrap .i64 ((↑n : Int) - 1) = (↑(nsg cl n (wz g)) : Int) ∧ True) ∧ ((fEq .f64 (g
(0 + Int.toNat (Go.IntKind.wrap .i64 ((↑n : Int) - 1)) * 2)) (g 0) && (fEq .f64 (g (0 + Int.toNat (Go.IntKind.wrap .i64 ((↑n : Int) - 1)) * 2 + 1)) (g 1) && true)) = false
→ (↑n : Int) = (↑(nsg cl n (wz g)) : Int) ∧ True))) ∧ (cl = false → (decide ((↑n : Int) < 2) = true → 0 = (↑(nsg cl n (wz g)) : Int) ∧ True) ∧ (decide ((↑n : Int)
< (2 : Int)) = false → Go.IntKind.wrap .i64 ((↑n : Int) - 1) = (↑(nsg cl n (wz g)) : Int) ∧ True))) := by kernel_rfl
theorem sNumW : ConOk Tryz.prog 111 (conR sNumWC) := by
 refine con_of_vc gPF Tryz.func111 rfl (by kernel_rfl) fun args => ?_
 unfold sNumWC
 split
 · rename_i s
   intro o0
   show RdM.All _ (match serOf o0.c with | some (cl, cw, cv, k, x, y, z, w, p, n) => _ | none => _) _
   split
   · rename_i cl cw cv k x y z w p n hm0
     intro o1
     show RdM.All _ (match fltsFrom .f64 o1.c with | some (m, g) => _ | none => _) _
     split
     · rename_i m1 g hm1
       intro ho
       replace ho : m1 = 2 * n ∧ n ≤ 1000000 ∧ FL2 g (2 * n) := ho
       obtain ⟨hsz1, ho⟩ := ho
       subst hsz1
       refine ⟨?_, _, _, (vc_sNumW cl cw cv k x y z w p n g).mpr ?_⟩
       · refine okFlag_mk rfl ⟨?_, ⟨trivial, serOf_spec hm0 sameN_self, ⟨trivial, (contR_flts hm1).1, trivial⟩⟩⟩
         simp [eqvRL, eqvR, sgSig, fsts, nth, sameN_self]
       · obtain ⟨hn, hg⟩ := ho
         have hw : IntKind.i64.wrap ((n : Int) - 1) = n - 1 := wrap64 (by omega) (by omega)
         rw [hw]
         refine ⟨fun hc => ⟨fun h => ?_, fun h => ?_⟩, fun hc => ⟨fun h => ?_, fun h => ?_⟩⟩
         · have h := of_decide_eq_true h
           refine ⟨?_, trivial⟩
           unfold nsg
           rw [if_pos hc, if_pos (by omega)]; rfl
         · have h := of_decide_eq_false h
           have e : 0 + ((n : Int) - 1).toNat * 2 = 2 * (n - 1) := by omega
           rw [e]
           have e1 : fEq .f64 (g (2 * (n - 1))) (g 0) = decide (wz g (2 * (n - 1)) = wz g 0) := feq_I (hg _ (by omega)).1 (hg _ (by omega)).1
           have e2 : fEq .f64 (g (2 * (n - 1) + 1)) (g 1) = decide (wz g (2 * (n - 1) + 1) = wz g 1) := feq_I (hg _ (by omega)).1 (hg _ (by omega)).1
           rw [e1, e2]
           refine ⟨by omega, by omega, by omega, by omega, rfl, fun h1 => ⟨?_, trivial⟩, fun h1 => ⟨?_, trivial⟩⟩
           · unfold nsg
             rw [if_pos hc, if_neg (by omega), if_pos (by simpa using h1)]
             omega
           · unfold nsg
             rw [if_pos hc, if_neg (by omega), if_neg (by simpa using h1)]
         · have h := of_decide_eq_true h
           refine ⟨?_, trivial⟩
           unfold nsg
           rw [if_neg (by simp [hc])]
           omega
         · have h := of_decide_eq_false h
           refine ⟨?_, trivial⟩
           unfold nsg
           rw [if_neg (by simp [hc])]
           omega
     · trivial
   · trivial
 · trivial
def serO : Cont → Option (Int × Nat × Nat × Nat × Nat × Nm)
 | .cells [.ff, .ff, .ff, .int .u8 k, .nili, .flt .f64 x, .flt .f64 y, .flt .f64 z, .flt .f64 w, .slc p 0 2 2] => some (k, x, y, z, w, p)
 | _ => none
def serOC (k : Int) (x y z w : Nat) (p : Nm) : Cont := .cells [.ff, .ff, .ff, .int .u8 k, .nili, .flt .f64 x, .flt .f64 y, .flt .f64 z, .flt .f64 w, .slc p 0 2 2]
theorem serO_spec {σ : Sig} {c : Cont} {k : Int} {x y z w : Nat} {p q : Nm} (h : serO c = some (k, x, y, z, w, p)) (hs : sameN (σ q) p) : contR σ c (serOC k x y z w q) := by
 unfold serO at h
 split at h
 · simp only [Option.some.injEq, Prod.mk.injEq] at h
   obtain ⟨rfl, rfl, rfl, rfl, rfl, rfl⟩ := h
   show eqvRL σ _ _
   simp [eqvRL, eqvR, kEq_self, fkEq_self, hs]
 · cases h
noncomputable def sEmptyOC : List SV → RdM
 | [.ptr s 0] => .read s fun o0 => (match serO o0.c with
   | some (ko, xo, yo, zo, wo, po) => .read po fun o1 => (match fltsFrom .f64 o1.c with
   | some (m1, h) => .ret ⟨[.ptr 0 0], [(0, ⟨false, 152, serOC ko xo yo zo wo 1, 0⟩), (1, ⟨false, 100, .flts .f64 m1 h, 0⟩)], .ff, [], [], some (m1 = 4 ∧ True)⟩
   | none => .fail)
   | none => .fail)
 | _ => .fail
theorem vc_sEmptyO (ko : Int) (xo yo zo wo : Nat) (_ : Nm)  (h : Nat → Nat) : runA G0 2 [] [] (codeOf Tryz.f163) (init Tryz.f163.ntmps [.ptr 0 0] [(0, ⟨false, 152, serOC ko xo yo zo wo 1, 0⟩), (1, ⟨false, 100, .flts .f64 (4) h, 0⟩)] 2) (endK G0.E.T Tryz.f163.results.toList fun S v => postP 2 ⟨[.ptr 0 0], [(0, ⟨false, 152, serOC ko xo yo zo wo 1, 0⟩), (1, ⟨false, 100, .flts .f64 (4) h, 0⟩)], .ff, [], [], some (4 = 4 ∧ True)⟩ S v) = (
 false = false ∧ True) := by kernel_rfl
theorem sEmptyO : ConOk Tryz.prog 163 (conR sEmptyOC) := by
 refine con_of_vc g0 Tryz.func163 rfl (by kernel_rfl) fun args => ?_
 unfold sEmptyOC
 split
 · rename_i s
   intro o0
   show RdM.All _ (match serO o0.c with | some (ko, xo, yo, zo, wo, po) => _ | none => _) _
   split
   · rename_i ko xo yo zo wo po hm0
     intro o1
     show RdM.All _ (match fltsFrom .f64 o1.c with | some (m, g) => _ | none => _) _
     split
     · rename_i m1 h hm1
       intro ho
       replace ho : m1 = 4 ∧ True := ho
       obtain ⟨hsz1, ho⟩ := ho
       subst hsz1
       refine ⟨?_, _, _, (vc_sEmptyO ko xo yo zo wo po h).mpr ?_⟩
       · refine okFlag_mk rfl ⟨?_, ⟨trivial, serO_spec hm0 sameN_self, ⟨trivial, (contR_flts hm1).1, trivial⟩⟩⟩
         simp [eqvRL, eqvR, sgSig, fsts, nth, sameN_self]
       · simp
     · trivial
   · trivial
 · trivial
noncomputable def sNumOC : List SV → RdM
 | [.ptr s 0] => .read s fun o0 => (match serO o0.c with
   | some (ko, xo, yo, zo, wo, po) => .read po fun o1 => (match fltsFrom .f64 o1.c with
   | some (m1, h) => .ret ⟨[.ptr 0 0], [(0, ⟨false, 152, serOC ko xo yo zo wo 1, 0⟩), (1, ⟨false, 100, .flts .f64 m1 h, 0⟩)], .int .i64 1, [], [], some (m1 = 4 ∧ True)⟩
   | none => .fail)
   | none => .fail)
 | _ => .fail
theorem vc_sNumO (ko : Int) (xo yo zo wo : Nat) (_ : Nm)  (h : Nat → Nat) : runA G0 2 [] [] (codeOf Tryz.f111) (init Tryz.f111.ntmps [.ptr 0 0] [(0, ⟨false, 152, serOC ko xo yo zo wo 1, 0⟩), (1, ⟨false, 100, .flts .f64 (4) h, 0⟩)] 2) (endK G0.E.T Tryz.f111.results.toList fun S v => postP 2 ⟨[.ptr 0 0], [(0, ⟨false, 152, serOC ko xo yo zo wo 1, 0⟩), (1, ⟨false, 100, .flts .f64 (4) h, 0⟩)], .int .i64 1, [], [], some (4 = 4 ∧ True)⟩ S v) = (
(false = true → (0 : Int) = 1 ∧ True) ∧ (false = false → (1 : Int) = 1 ∧ True)) := by kernel_rfl
theorem sNumO : ConOk Tryz.prog 111 (conR sNumOC) := by
 refine con_of_vc g0 Tryz.func111 rfl (by kernel_rfl) fun args => ?_
 unfold sNumOC
 split
 · rename_i s
   intro o0
   show RdM.All _ (match serO o0.c with | some (ko, xo, yo, zo, wo, po) => _ | none => _) _
   split
   · rename_i ko xo yo zo wo po hm0
     intro o1
     show RdM.All _ (match fltsFrom .f64 o1.c with | some (m, g) => _ | none => _) _
     split
     · rename_i m1 h hm1
       intro ho
       replace ho : m1 = 4 ∧ True := ho
       obtain ⟨hsz1, ho⟩ := ho
       subst hsz1
       refine ⟨?_, _, _, (vc_sNumO ko xo yo zo wo po h).mpr ?_⟩
       · refine okFlag_mk rfl ⟨?_, ⟨trivial, serO_spec hm0 sameN_self, ⟨trivial, (contR_flts hm1).1, trivial⟩⟩⟩
         simp [eqvRL, eqvR, sgSig, fsts, nth, sameN_self]
       · simp
     · trivial
   · trivial
 · trivial
noncomputable def sSegOC : List SV → RdM
 | [.ptr s 0, .int .i64 0] => .read s fun o0 => (match serO o0.c with
   | some (ko, xo, yo, zo, wo, po) => .read po fun o1 => (match fltsFrom .f64 o1.c with
   | some (m1, h) => .ret ⟨[.ptr 0 0, .int .i64 0], [(0, ⟨false, 152, serOC ko xo yo zo wo 1, 0⟩), (1, ⟨false, 100, .flts .f64 m1 h, 0⟩)], .agg [.flt .f64 (h 0), .flt .f64 (h 1), .flt .f64 (h 2), .flt .f64 (h 3)], [], [], some (m1 = 4 ∧ True)⟩
   | none => .fail)
   | none => .fail)
 | _ => .fail
theorem vc_sSegO (ko : Int) (xo yo zo wo : Nat) (_ : Nm)  (h : Nat → Nat) : runA G0 2 [] [] (codeOf Tryz.f112) (init Tryz.f112.ntmps [.ptr 0 0, .int .i64 0] [(0, ⟨false, 152, serOC ko xo yo zo wo 1, 0⟩), (1, ⟨false, 100, .flts .f64 (4) h, 0⟩)] 2) (endK G0.E.T Tryz.f112.results.toList fun S v => postP 2 ⟨[.ptr 0 0, .int .i64 0], [(0, ⟨false, 152, serOC ko xo yo zo wo 1, 0⟩), (1, ⟨false, 100, .flts .f64 (4) h, 0⟩)], .agg [.flt .f64 (h 0), .flt .f64 (h 1), .flt .f64 (h 2), .flt .f64 (h 3)], [], [], some (4 = 4 ∧ True)⟩ S v) = (
(((0 : Int) ≤ 0 ∧ (0 : Int) < 2) ∧ 1 ≤ 4) ∧ 2 ≤ 4 ∧ (false = true → (((0 : Int) ≤ 0 ∧ (0 : Int) < 2) ∧ 1 ≤ 4) ∧ 2 ≤ 4 ∧ (h 0 = h 0 ∧ h 1 = h 1 ∧ h 0 = h 2 ∧ h 1 = h 3 ∧ True) ∧ True) ∧ (false = false → (((0 : Int) ≤ 1 ∧ (1 : Int) < 2) ∧ 1 ≤ 4) ∧ 4 ≤ 4 ∧ (h 0 = h 0 ∧ h 1 = h 1 ∧ h 2 = h 2 ∧ h 3 = h 3 ∧ True) ∧ True)) := by kernel_rfl
theorem sSegO : ConOk Tryz.prog 112 (conR sSegOC) := by
 refine con_of_vc g0 Tryz.func112 rfl (by kernel_rfl) fun args => ?_
 unfold sSegOC
 split
 · rename_i s
   intro o0
   show RdM.All _ (match serO o0.c with | some (ko, xo, yo, zo, wo, po) => _ | none => _) _
   split
   · rename_i ko xo yo zo wo po hm0
     intro o1
     show RdM.All _ (match fltsFrom .f64 o1.c with | some (m, g) => _ | none => _) _
     split
     · rename_i m1 h hm1
       intro ho
       replace ho : m1 = 4 ∧ True := ho
       obtain ⟨hsz1, ho⟩ := ho
       subst hsz1
       refine ⟨?_, _, _, (vc_sSegO ko xo yo zo wo po h).mpr ?_⟩
       · refine okFlag_mk rfl ⟨?_, ⟨trivial, serO_spec hm0 sameN_self, ⟨trivial, (contR_flts hm1).1, trivial⟩⟩⟩
         simp [eqvRL, eqvR, kEq_self, sgSig, fsts, nth, sameN_self]
       · simp
     · trivial
   · trivial
 · trivial
def isO : Cont → Bool
 | .cells [_, _, _, _, _, _, _, _, _, .slc _ _ _ _] => true
 | _ => false
noncomputable def lon (g : Nat → Nat) (n a b c d : Nat) (j : Nat) : Bool := onW (g (2 * j)) (g (2 * j + 1)) (g (2 * nx n j)) (g (2 * nx n j + 1)) a b && onW (g (2 * j)) (g (2 * j + 1)) (g (2 * nx n j)) (g (2 * nx n j + 1)) c d
noncomputable def GL2 : Ctx := ⟨⟨tys, FP⟩, [(163, kindC isO (conR sEmptyOC) (conR sEmptyC)), (111, kindC isO (conR sNumOC) (conR sNumWC)), (112, kindC isO (conR sSegOC) (conR sSegC)), (231, pureCon sHasSF)]⟩
theorem gL2 : CtxOk Tryz.prog GL2 := ⟨⟨tysOk, fpOk⟩, GamOk.cons (ConOk.kind sEmptyO sEmpty) (GamOk.cons (ConOk.kind sNumO sNumW) (GamOk.cons (ConOk.kind sSegO sSeg) (GamOk.cons (.pure sHasS) GamOk.nil))), by kernel_rfl⟩
def lc6 (cl cw cv : Bool) (k : Int) (x y z w n : Nat) (g : Nat → Nat) (ko : Int) (xo yo zo wo : Nat) (h : Nat → Nat) (N : Nat) (P : Nat → Prop) : Fam := ⟨Nat, fun i => ⟨98, [(0, .ptr 0 0), (1, .ptr 2 0), (5, .int .i64 N), (6, .int .i64 (-1)), (7, .int .i64 i)], [(0, ⟨false, 152, serC cl cw cv k x y z w 1 n, 0⟩), (1, ⟨false, 100, .flts .f64 (2 * n) g, 0⟩), (2, ⟨false, 152, serOC ko xo yo zo wo 3, 0⟩), (3, ⟨false, 100, .flts .f64 4 h, 0⟩)], 4⟩, fun i => i ≤ N ∧ P i, fun i => N - i⟩
noncomputable def lcl2C : List SV → RdM
 | [.ptr l 0, .ptr o 0] => .read l fun o0 => (match serOf o0.c with
   | some (cl, cw, cv, k, x, y, z, w, p, n) => .read p fun o1 => (match fltsFrom .f64 o1.c with
   | some (m1, g) => .read o fun o2 => (match serO o2.c with
   | some (ko, xo, yo, zo, wo, po) => .read po fun o3 => (match fltsFrom .f64 o3.c with
   | some (m3, h) => .ret ⟨[.ptr 0 0, .ptr 2 0], [(0, ⟨false, 152, serC cl cw cv k x y z w 1 n, 0⟩), (1, ⟨false, 100, .flts .f64 m1 g, 0⟩), (2, ⟨false, 152, serOC ko xo yo zo wo 3, 0⟩), (3, ⟨false, 100, .flts .f64 m3 h, 0⟩)], .bool (!(emp cl n) && anyB (lon g n (h 0) (h 1) (h 2) (h 3)) (nsg cl n (wz g))), [], [], some (m1 = 2 * n ∧ m3 = 4 ∧ n ≤ 1000000 ∧ FL2 g (2 * n) ∧ (W22 (h 0) ∧ W22 (h 1) ∧ W22 (h 2) ∧ W22 (h 3)))⟩
   | none => .fail)
   | none => .fail)
   | none => .fail)
   | none => .fail)
 | _ => .fail
theorem vc_lcl2 (cl cw cv : Bool) (k : Int) (x y z w : Nat) (_ : Nm) (n : Nat) (ko : Int) (xo yo zo wo : Nat) (_ : Nm)  (g : Nat → Nat) (h : Nat → Nat) : runA GL2 4 [(6, lc6 cl cw cv k x y z w n g ko xo yo zo wo h (nsg cl n (wz g)) (fun i => emp cl n = false ∧ noneB (lon g n (h 0) (h 1) (h 2) (h 3)) i)), (14, .iter 1)] [] (codeOf Tryz.f223) (init Tryz.f223.ntmps [.ptr 0 0, .ptr 2 0] [(0, ⟨false, 152, serC cl cw cv k x y z w 1 n, 0⟩), (1, ⟨false, 100, .flts .f64 (2 * n) g, 0⟩), (2, ⟨false, 152, serOC ko xo yo zo wo 3, 0⟩), (3, ⟨false, 100, .flts .f64 (4) h, 0⟩)] 4) (endK GL2.E.T Tryz.f223.results.toList fun S v => postP 4 ⟨[.ptr 0 0, .ptr 2 0], [(0, ⟨false, 152, serC cl cw cv k x y z w 1 n, 0⟩), (1, ⟨false, 100, .flts .f64 (2 * n) g, 0⟩), (2, ⟨false, 152, serOC ko xo yo zo wo 3, 0⟩), (3, ⟨false, 100, .flts .f64 (4) h, 0⟩)], .bool (!(emp cl n) && anyB (lon g n (h 0) (h 1) (h 2) (h 3)) (nsg cl n (wz g))), [], [], some (2 * n = 2 * n ∧ 4 = 4 ∧ n ≤ 1000000 ∧ FL2 g (2 * n) ∧ (W22 (h 0) ∧ W22 (h 1) ∧ W22 (h 2) ∧ W22 (h 3)))⟩ S v) = (
(2 * n = 2 * n ∧ True) ∧ (decide (n < 2 ∨ cl = true ∧ n < 3) = true → (!emp cl n && anyB (lon g n (h 0) (h 1) (h 2) (h 3))
(nsg cl n (wz g))) = false ∧ True) ∧ (decide (n < 2 ∨ cl = true ∧ n < 3) = false → (4 = 4 ∧ True) ∧ (2 * n = 2 * n ∧ n ≤ 1000000 ∧ FL2 g (2 * n)) ∧ (∃ (i : Nat), (i ≤ nsg cl n (wz g) ∧ emp cl n = false ∧ noneB (lon g n (h 0) (h 1) (h 2) (h 3)) i) ∧ ((True ∧ 0 = 0) ∧ (True ∧ 0 = 0) ∧ (↑(nsg cl n (wz g)) : Int) = (↑(nsg cl n (wz g)) : Int) ∧ (-1 : Int) = (-1 : Int) ∧ 0 = (↑i : Int) ∧ True) ∧ True ∧
(cl = cl ∧ cw = cw ∧ cv = cv ∧ k = k ∧ True ∧ x = x ∧ y = y ∧ z = z ∧ w = w ∧ (True ∧ n = n) ∧ True) ∧ True ∧ (2 * n ≤ 2 * n ∧ ∀ (i : Nat), i < 2 * n → g i = g i) ∧ True ∧ (True ∧ True ∧ True ∧ ko = ko ∧ True ∧ xo = xo ∧ yo =
 yo ∧ zo = zo ∧ wo = wo ∧ (True ∧ 0 = 0 ∧ 2 = 2 ∧ 2 = 2) ∧ True) ∧ True ∧ (4 ≤ 4 ∧ ∀ (i : Nat), i < 4 → h i = h i) ∧ True) ∧ ∀ (i : Nat), i ≤ nsg cl n
(wz g) ∧ emp cl n = false ∧ noneB (lon g n (h 0) (h 1) (h 2) (h 3)) i → (decide ((↑i : Int) < (↑(nsg cl n (wz
 g)) : Int)) = true → (2 * n = 2 * n ∧ 0 ≤ (↑i : Int) ∧ (↑i : Int) < (↑n : Int) ∧ n ≤ 1000000) ∧ (4 = 4 ∧ True) ∧ (PW (g (2 * Int.toNat (↑i : Int))) (g (2 * Int.toNat
(↑i : Int) + 1)) (g (2 * nx n (Int.toNat (↑i : Int)))) (g (2 * nx n (Int.toNat (↑i : Int)) + 1)) (h 0) (h 1) ∧ PW (g (2 * Int.toNat (↑i :
 Int))) (g (2 * Int.toNat (↑i : Int) + 1)) (g (2 * nx n (Int.toNat (↑i : Int)))) (g (2 * nx n (Int.toNat (↑i : Int)) + 1)) (h 2) (h 3)) ∧ true = true ∧
((onW (g (2 * Int.toNat (↑i : Int))) (g (2 * Int.toNat (↑i : Int) + 1)) (g (2 * nx n (Int.toNat (↑i : Int)))) (g (2 * nx n (Int.toNat (↑i : Int)) + 1)) (h 0) (h 1) && onW (g (2 * Int.toNat (↑i : Int))) (g (2 * Int.toNat (↑i : Int) + 1)) (g (2 * nx n (Int.toNat (↑i : Int)))) (g (2 * nx
 n (Int.toNat (↑i : Int)) + 1)) (h 2) (h 3)) = true → (((↑i : Int) == (-1 : Int)) = true → (!emp cl n && anyB (lon g n (h 0) (h 1) (h 2) (h 3)) (nsg cl n (wz g))) = false ∧ True) ∧ (((↑i : Int) == (-1 : Int)) = false → (4 = 4 ∧ True) ∧ (false = true → (2 * n = 2 * n ∧ 0 ≤ (↑i : Int) ∧ (↑i : Int) < (↑n : Int) ∧
 n ≤ 1000000) ∧ False) ∧ (false = false → (!emp cl n && anyB (lon g n (h 0) (h 1) (h 2) (h 3)) (nsg cl n (wz g))) = true
∧ True))) ∧ ((onW (g (2 * Int.toNat (↑i : Int))) (g (2 * Int.toNat (↑i : Int) + 1)) (g (2 * nx n (Int.toNat (↑i : Int)))) (g (2 * nx n (Int.toNat (↑i :
 Int)) + 1)) (h 0) (h 1) && onW (g (2 * Int.toNat (↑i : Int))) (g (2 * Int.toNat (↑i : Int) + 1)) (g (2 * nx n (Int.toNat (↑i : Int)))) (g (2 *
 nx n (Int.toNat (↑i : Int)) + 1)) (h 2) (h 3)) = false → ∃ (i' : Nat), (i' ≤ nsg cl n (wz g) ∧ emp cl n = false ∧ noneB
(lon g n (h 0) (h 1) (h 2) (h 3)) i') ∧ nsg cl n (wz g) - i' < nsg cl n (wz g) - i ∧ ((True ∧ 0 = 0) ∧ (True ∧
0 = 0) ∧ (↑(nsg cl n (wz g)) : Int) = (↑(nsg cl n (wz g)) : Int) ∧ (-1 : Int) = (-1 : Int) ∧ Go.IntKind.wrap .i64 ((↑i : Int) + 1) = (↑i' : Int) ∧ True) ∧
 True ∧ (cl = cl ∧ cw = cw ∧ cv = cv ∧ k = k ∧ True ∧ x = x ∧ y = y ∧ z = z ∧ w = w ∧ (True ∧ n = n) ∧ True) ∧ True ∧ (2 * n ≤ 2 * n ∧ ∀ (i : Nat), i < 2 * n → g i = g i) ∧ True ∧ (True ∧ True ∧ True ∧ ko = ko ∧ True ∧ xo = xo
∧ yo = yo ∧ zo = zo ∧ wo = wo ∧ (True ∧ 0 = 0 ∧ 2 = 2 ∧ 2 = 2) ∧ True) ∧ True ∧ (4 ≤ 4 ∧ ∀ (i : Nat), i < 4 → h i = h i) ∧ True)) ∧ (decide ((↑i : Int) < (↑(nsg
 cl n (wz g)) : Int)) = false → (true = true → (!emp cl n && anyB (lon g n (h 0) (h 1) (h 2) (h 3)) (nsg cl n
(wz g))) = false ∧ True) ∧ (true = false → (4 = 4 ∧ True) ∧ (false = true → (2 * n = 2 * n ∧ (0 : Int) ≤ (-1 : Int) ∧ (-1 : Int) < (↑n : Int) ∧ n ≤ 1000000) ∧ False) ∧ (false = false →
(!emp cl n && anyB (lon g n (h 0) (h 1) (h 2) (h 3)) (nsg cl n (wz g))) = true ∧ True))))) := by kernel_rfl
theorem lcl2 : ConOk Tryz.prog 223 (conR lcl2C) := by
 refine con_of_vc gL2 Tryz.func223 rfl (by kernel_rfl) fun args => ?_
 unfold lcl2C
 split
 · rename_i l o
   intro o0
   show RdM.All _ (match serOf o0.c with | some (cl, cw, cv, k, x, y, z, w, p, n) => _ | none => _) _
   split
   · rename_i cl cw cv k x y z w p n hm0
     intro o1
     show RdM.All _ (match fltsFrom .f64 o1.c with | some (m, g) => _ | none => _) _
     split
     · rename_i m1 g hm1
       intro o2
       show RdM.All _ (match serO o2.c with | some (ko, xo, yo, zo, wo, po) => _ | none => _) _
       split
       · rename_i ko xo yo zo wo po hm2
         intro o3
         show RdM.All _ (match fltsFrom .f64 o3.c with | some (m, g) => _ | none => _) _
         split
         · rename_i m3 h hm3
           intro ho
           replace ho : m1 = 2 * n ∧ m3 = 4 ∧ n ≤ 1000000 ∧ FL2 g (2 * n) ∧ (W22 (h 0) ∧ W22 (h 1) ∧ W22 (h 2) ∧ W22 (h 3)) := ho
           obtain ⟨hsz1, hsz3, ho⟩ := ho
           subst hsz1
           subst hsz3
           refine ⟨?_, _, _, (vc_lcl2 cl cw cv k x y z w p n ko xo yo zo wo po g h).mpr ?_⟩
           · refine okFlag_mk rfl ⟨?_, ⟨trivial, serOf_spec hm0 sameN_self, ⟨trivial, (contR_flts hm1).1, ⟨trivial, serO_spec hm2 sameN_self, ⟨trivial, (contR_flts hm3).1, trivial⟩⟩⟩⟩⟩
             simp [eqvRL, eqvR, sgSig, fsts, nth, sameN_self]
           · obtain ⟨hn, hg, wa, wb, wc, wd⟩ := ho
             have eA : decide (n < 2 ∨ cl = true ∧ n < 3) = emp cl n := rfl
             have hns := nsg_le cl n (wz g)
             generalize nsg cl n (wz g) = N at *
             simp only [true_and, and_true, eq_self, Nat.le_refl, implies_true, true_implies, false_implies, reduceCtorEq, eA, Int.toNat_natCast]
             refine ⟨fun q => by rw [q]; rfl, fun q => ⟨⟨hn, hg⟩, ⟨0, ⟨by omega, q, fun j hj => by omega⟩, rfl⟩, fun i hi => ⟨fun h1 => ?_, fun h1 => ?_⟩⟩⟩
             · have h1 := of_decide_eq_true h1
               have hw : IntKind.i64.wrap ((i : Int) + 1) = ((i + 1 : Nat) : Int) := by rw [wrap64 (by omega) (by omega)]; omega
               have n1 := nx_lt (show i < n by omega)
               have nm : ((i : Int) == -1) = false := by simp
               have p0 := hg (2 * i) (by omega)
               have p1 := hg (2 * i + 1) (by omega)
               have p2 := hg (2 * nx n i) (by omega)
               have p3 := hg (2 * nx n i + 1) (by omega)
               rw [hw, nm]
               simp only [Bool.false_eq_true, false_implies, true_and, true_implies]
               refine ⟨⟨by omega, by omega, hn⟩, ⟨pw22 p0 p1 p2 p3 wa wb, pw22 p0 p1 p2 p3 wc wd⟩, fun q3 => ?_, fun q3 => ⟨i + 1, ⟨by omega, q, fun j hj => ?_⟩, by omega, rfl⟩⟩
               · rw [q, anyB_of (p := lon g n (h 0) (h 1) (h 2) (h 3)) (i := i) (by omega) q3]
                 rfl
               · by_cases e : j = i
                 · subst e; exact q3
                 · exact hi.2.2 j (by omega)
             · have h1 := of_decide_eq_false h1
               have : i = N := by omega
               subst this
               rw [anyB_not hi.2.2]
               simp
         · trivial
       · trivial
     · trivial
   · trivial
 · trivial
set_option maxHeartbeats 1000000
noncomputable def GPE : Ctx := ⟨⟨tys, FP⟩, [(163, conR sEmptyC), (164, conR sRectSC)]⟩
theorem gPE : CtxOk Tryz.prog GPE := ⟨⟨tysOk, fpOk⟩, GamOk.cons sEmpty (GamOk.cons sRectS (GamOk.nil)), by kernel_rfl⟩
noncomputable def poEmpC : List SV → RdM
 | [.ptr Q 0] => .read Q fun o0 => (match polE o0.c with
   | some t => .read t fun o1 => (match serOf o1.c with
   | some (cl2, cw2, cv2, k2, x2, y2, z2, w2, p2, n2) => .read p2 fun o2 => (match fltsFrom .f64 o2.c with
   | some (m2, g2) => .ret ⟨[.ptr 0 0], [(0, ⟨false, 137, polC 1, 0⟩), (1, ⟨false, 150, serC cl2 cw2 cv2 k2 x2 y2 z2 w2 2 n2, 0⟩), (2, ⟨false, 100, .flts .f64 m2 g2, 0⟩)], .bool (emp cl2 n2), [], [], some (m2 = 2 * n2 ∧ True)⟩
   | none => .fail)
   | none => .fail)
   | none => .fail)
 | _ => .fail
theorem vc_poEmp (cl2 cw2 cv2 : Bool) (k2 : Int) (x2 y2 z2 w2 : Nat) (_ : Nm) (n2 : Nat) (_ : Nm)  (g2 : Nat → Nat) : runA GPE 3 [] [] (codeOf Tryz.f165) (init Tryz.f165.ntmps [.ptr 0 0] [(0, ⟨false, 137, polC 1, 0⟩), (1, ⟨false, 150, serC cl2 cw2 cv2 k2 x2 y2 z2 w2 2 n2, 0⟩), (2, ⟨false, 100, .flts .f64 (2 * n2) g2, 0⟩)] 3) (endK GPE.E.T Tryz.f165.results.toList fun S v => postP 3 ⟨[.ptr 0 0], [(0, ⟨false, 137, polC 1, 0⟩), (1, ⟨false, 150, serC cl2 cw2 cv2 k2 x2 y2 z2 w2 2 n2, 0⟩), (2, ⟨false, 100, .flts .f64 (2 * n2) g2, 0⟩)], .bool (emp cl2 n2), [], [], some (2 * n2 = 2 * n2 ∧ True)⟩ S v) = (
0 < 1 ∧ 0 < 1 ∧ 0 < 1 ∧ 1 ≤ 1 ∧ 0 < 1 ∧ 0 < 1 ∧ 1 ≤ 1 ∧ (2 * n2 = 2 * n2 ∧ True) ∧ decide (n2 < 2 ∨ cl2 = true ∧
 n2 < 3) = emp cl2 n2 ∧ True) := by kernel_rfl
theorem poEmp : ConOk Tryz.prog 165 (conR poEmpC) := by
 refine con_of_vc gPE Tryz.func165 rfl (by kernel_rfl) fun args => ?_
 unfold poEmpC
 split
 · rename_i Q
   intro o0
   show RdM.All _ (match polE o0.c with | some t => _ | none => _) _
   split
   · rename_i t hm0
     intro o1
     show RdM.All _ (match serOf o1.c with | some (cl2, cw2, cv2, k2, x2, y2, z2, w2, p2, n2) => _ | none => _) _
     split
     · rename_i cl2 cw2 cv2 k2 x2 y2 z2 w2 p2 n2 hm1
       intro o2
       show RdM.All _ (match fltsFrom .f64 o2.c with | some (m, g) => _ | none => _) _
       split
       · rename_i m2 g2 hm2
         intro ho
         replace ho : m2 = 2 * n2 ∧ True := ho
         obtain ⟨hsz2, ho⟩ := ho
         subst hsz2
         refine ⟨?_, _, _, (vc_poEmp cl2 cw2 cv2 k2 x2 y2 z2 w2 p2 n2 t g2).mpr ?_⟩
         · refine okFlag_mk rfl ⟨?_, ⟨fun _ _ => rfl, polE_spec hm0 sameN_self, ⟨trivial, serOf_spec hm1 sameN_self, ⟨trivial, (contR_flts hm2).1, trivial⟩⟩⟩⟩
           simp [eqvRL, eqvR, sgSig, fsts, nth, sameN_self]
         · simp [emp]
       · trivial
     · trivial
   · trivial
 · trivial
noncomputable def poRecC : List SV → RdM
 | [.ptr Q 0] => .read Q fun o0 => (match polE o0.c with
   | some t => .read t fun o1 => (match serOf o1.c with
   | some (cl2, cw2, cv2, k2, x2, y2, z2, w2, p2, n2) => .read p2 fun o2 => (match fltsFrom .f64 o2.c with
   | some (m2, g2) => .ret ⟨[.ptr 0 0], [(0, ⟨false, 137, polC 1, 0⟩), (1, ⟨false, 150, serC cl2 cw2 cv2 k2 x2 y2 z2 w2 2 n2, 0⟩), (2, ⟨false, 100, .flts .f64 m2 g2, 0⟩)], .agg [.flt .f64 x2, .flt .f64 y2, .flt .f64 z2, .flt .f64 w2], [], [], some (m2 = 2 * n2 ∧ True)⟩
   | none => .fail)
   | none => .fail)
   | none => .fail)
 | _ => .fail
theorem vc_poRec (cl2 cw2 cv2 : Bool) (k2 : Int) (x2 y2 z2 w2 : Nat) (_ : Nm) (n2 : Nat) (_ : Nm)  (g2 : Nat → Nat) : runA GPE 3 [] [] (codeOf Tryz.f166) (init Tryz.f166.ntmps [.ptr 0 0] [(0, ⟨false, 137, polC 1, 0⟩), (1, ⟨false, 150, serC cl2 cw2 cv2 k2 x2 y2 z2 w2 2 n2, 0⟩), (2, ⟨false, 100, .flts .f64 (2 * n2) g2, 0⟩)] 3) (endK GPE.E.T Tryz.f166.results.toList fun S v => postP 3 ⟨[.ptr 0 0], [(0, ⟨false, 137, polC 1, 0⟩), (1, ⟨false, 150, serC cl2 cw2 cv2 k2 x2 y2 z2 w2 2 n2, 0⟩), (2, ⟨false, 100, .flts .f64 (2 * n2) g2, 0⟩)], .agg [.flt .f64 x2, .flt .f64 y2, .flt .f64 z2, .flt .f64 w2], [], [], some (2 * n2 = 2 * n2 ∧ True)⟩ S v) = (
0 < 1 ∧ 0 < 1 ∧ 0 < 1 ∧ 1 ≤ 1 ∧ 0 < 1 ∧ 0 < 1 ∧ 1 ≤ 1 ∧ (2 * n2 = 2 * n2 ∧ True) ∧ (x2 = x2 ∧ y2 = y2 ∧ z2 = z2 ∧ w2 = w2
∧ True) ∧ True) := by kernel_rfl
theorem poRec : ConOk Tryz.prog 166 (conR poRecC) := by
 refine con_of_vc gPE Tryz.func166 rfl (by kernel_rfl) fun args => ?_
 unfold poRecC
 split
 · rename_i Q
   intro o0
   show RdM.All _ (match polE o0.c with | some t => _ | none => _) _
   split
   · rename_i t hm0
     intro o1
     show RdM.All _ (match serOf o1.c with | some (cl2, cw2, cv2, k2, x2, y2, z2, w2, p2, n2) => _ | none => _) _
     split
     · rename_i cl2 cw2 cv2 k2 x2 y2 z2 w2 p2 n2 hm1
       intro o2
       show RdM.All _ (match fltsFrom .f64 o2.c with | some (m, g) => _ | none => _) _
       split
       · rename_i m2 g2 hm2
         intro ho
         replace ho : m2 = 2 * n2 ∧ True := ho
         obtain ⟨hsz2, ho⟩ := ho
         subst hsz2
         refine ⟨?_, _, _, (vc_poRec cl2 cw2 cv2 k2 x2 y2 z2 w2 p2 n2 t g2).mpr ?_⟩
         · refine okFlag_mk rfl ⟨?_, ⟨fun _ _ => rfl, polE_spec hm0 sameN_self, ⟨trivial, serOf_spec hm1 sameN_self, ⟨trivial, (contR_flts hm2).1, trivial⟩⟩⟩⟩
           simp [eqvRL, eqvR, sgSig, fsts, nth, sameN_self]
         · simp
       · trivial
     · trivial
   · trivial
 · trivial
noncomputable def GLP : Ctx := ⟨⟨tys, FP⟩, [(163, conR sEmptyC), (165, conR poEmpC), (166, conR poRecC), (223, conR lcl2C)]⟩
theorem gLP : CtxOk Tryz.prog GLP := ⟨⟨tysOk, fpOk⟩, GamOk.cons sEmpty (GamOk.cons poEmp (GamOk.cons poRec (GamOk.cons lcl2 (GamOk.nil)))), by kernel_rfl⟩
noncomputable def lcpV (g : Nat → Nat) (n : Nat) (cl : Bool) (n2 : Nat) (cl2 : Bool) (x y z w : Nat) : Bool := !(emp cl n) && (!(emp cl2 n2) && (!(fNe .f64 x z && fNe .f64 y w) && (!(emp cl n) && anyB (lon g n x y z w) (nsg cl n (wz g)))))
noncomputable def lcpC : List SV → RdM
 | [.ptr l 0, .ptr Q 0] => .read l fun o0 => (match serOf o0.c with
   | some (cl, cw, cv, k, x, y, z, w, p, n) => .read p fun o1 => (match fltsFrom .f64 o1.c with
   | some (m1, g) => .read Q fun o2 => (match polE o2.c with
   | some t => .read t fun o3 => (match serOf o3.c with
   | some (cl2, cw2, cv2, k2, x2, y2, z2, w2, p2, n2) => .read p2 fun o4 => (match fltsFrom .f64 o4.c with
   | some (m4, g2) => .ret ⟨[.ptr 0 0, .ptr 2 0], [(0, ⟨false, 152, serC cl cw cv k x y z w 1 n, 0⟩), (1, ⟨false, 100, .flts .f64 m1 g, 0⟩), (2, ⟨false, 137, polC 3, 0⟩), (3, ⟨false, 150, serC cl2 cw2 cv2 k2 x2 y2 z2 w2 4 n2, 0⟩), (4, ⟨false, 100, .flts .f64 m4 g2, 0⟩)], .bool (lcpV g n cl n2 cl2 x2 y2 z2 w2), [], [], some (m1 = 2 * n ∧ m4 = 2 * n2 ∧ n ≤ 1000000 ∧ FL2 g (2 * n) ∧ (W22 x2 ∧ W22 y2 ∧ W22 z2 ∧ W22 w2))⟩
   | none => .fail)
   | none => .fail)
   | none => .fail)
   | none => .fail)
   | none => .fail)
 | _ => .fail
theorem vc_lcp (cl cw cv : Bool) (k : Int) (x y z w : Nat) (_ : Nm) (n : Nat) (cl2 cw2 cv2 : Bool) (k2 : Int) (x2 y2 z2 w2 : Nat) (_ : Nm) (n2 : Nat) (_ : Nm)  (g : Nat → Nat) (g2 : Nat → Nat) : runA GLP 5 [] [] (codeOf Tryz.f224) (init Tryz.f224.ntmps [.ptr 0 0, .ptr 2 0] [(0, ⟨false, 152, serC cl cw cv k x y z w 1 n, 0⟩), (1, ⟨false, 100, .flts .f64 (2 * n) g, 0⟩), (2, ⟨false, 137, polC 3, 0⟩), (3, ⟨false, 150, serC cl2 cw2 cv2 k2 x2 y2 z2 w2 4 n2, 0⟩), (4, ⟨false, 100, .flts .f64 (2 * n2) g2, 0⟩)] 5) (endK GLP.E.T Tryz.f224.results.toList fun S v => postP 5 ⟨[.ptr 0 0, .ptr 2 0], [(0, ⟨false, 152, serC cl cw cv k x y z w 1 n, 0⟩), (1, ⟨false, 100, .flts .f64 (2 * n) g, 0⟩), (2, ⟨false, 137, polC 3, 0⟩), (3, ⟨false, 150, serC cl2 cw2 cv2 k2 x2 y2 z2 w2 4 n2, 0⟩), (4, ⟨false, 100, .flts .f64 (2 * n2) g2, 0⟩)], .bool (lcpV g n cl n2 cl2 x2 y2 z2 w2), [], [], some (2 * n = 2 * n ∧ 2 * n2 = 2 * n2 ∧ n ≤ 1000000 ∧ FL2 g (2 * n) ∧ (W22 x2 ∧ W22 y2 ∧ W22 z2 ∧ W22 w2))⟩ S v) = (
0 < 1 ∧ (2 * n = 2 * n ∧ True) ∧ (decide (n < 2 ∨ cl = true ∧ n < 3) = true → lcpV g n cl n2 cl2 x2 y2 z2 w2 = false ∧ True) ∧ (decide (n < 2 ∨ cl = true ∧ n < 3) =
 false → (2 * n2 = 2 * n2 ∧ True) ∧ (emp cl2 n2 = true → lcpV g n cl n2 cl2 x2 y2 z2 w2 = false ∧ True) ∧ (emp cl2 n2 = false → (2 * n2 = 2 * n2 ∧ True) ∧ (fNe
.f64 x2 z2 = true → (fNe .f64 y2 w2 = true → lcpV g n cl n2 cl2 x2 y2 z2 w2 = false ∧ True) ∧ (fNe .f64 y2 w2 = false → (2 * n = 2 * n ∧ 4 = 4 ∧ n ≤ 1000000 ∧ FL2
 g (2 * n) ∧ W22 (List.getD [x2, y2, z2, w2] 0 0) ∧ W22 (List.getD [x2, y2, z2, w2] 1 0) ∧ W22 (List.getD [x2, y2, z2, w2] 2 0) ∧
 W22 (List.getD [x2, y2, z2, w2] 3 0)) ∧ (!emp cl n && anyB (lon g n (List.getD [x2, y2, z2, w2] 0 0) (List.getD [x2, y2, z2, w2] 1 0) (List.getD [x2, y2, z2, w2] 2 0) (List.getD [x2, y2, z2, w2] 3 0)) (nsg cl n (wz g))) = lcpV g n cl n2 cl2 x2 y2 z2 w2 ∧ True)) ∧ (fNe .f64 x2 z2 =
 false → (2 * n = 2 * n ∧ 4 = 4 ∧ n ≤ 1000000 ∧ FL2 g (2 * n) ∧ W22 (List.getD [x2, y2, z2, w2] 0 0) ∧ W22 (List.getD [x2, y2, z2,
 w2] 1 0) ∧ W22 (List.getD [x2, y2, z2, w2] 2 0) ∧ W22 (List.getD [x2, y2, z2, w2] 3 0)) ∧ (!emp cl n && anyB
(lon g n (List.getD [x2, y2, z2, w2] 0 0) (List.getD [x2, y2, z2, w2] 1 0) (List.getD [x2, y2, z2, w2] 2 0) (List.getD [x2, y2, z2, w2] 3 0)) (nsg cl
 n (wz g))) = lcpV g n cl n2 cl2 x2 y2 z2 w2 ∧ True)))) := by kernel_rfl
theorem lcp : ConOk Tryz.prog 224 (conR lcpC) := by
 refine con_of_vc gLP Tryz.func224 rfl (by kernel_rfl) fun args => ?_
 unfold lcpC
 split
 · rename_i l Q
   intro o0
   show RdM.All _ (match serOf o0.c with | some (cl, cw, cv, k, x, y, z, w, p, n) => _ | none => _) _
   split
   · rename_i cl cw cv k x y z w p n hm0
     intro o1
     show RdM.All _ (match fltsFrom .f64 o1.c with | some (m, g) => _ | none => _) _
     split
     · rename_i m1 g hm1
       intro o2
       show RdM.All _ (match polE o2.c with | some t => _ | none => _) _
       split
       · rename_i t hm2
         intro o3
         show RdM.All _ (match serOf o3.c with | some (cl2, cw2, cv2, k2, x2, y2, z2, w2, p2, n2) => _ | none => _) _
         split
         · rename_i cl2 cw2 cv2 k2 x2 y2 z2 w2 p2 n2 hm3
           intro o4
           show RdM.All _ (match fltsFrom .f64 o4.c with | some (m, g) => _ | none => _) _
           split
           · rename_i m4 g2 hm4
             intro ho
             replace ho : m1 = 2 * n ∧ m4 = 2 * n2 ∧ n ≤ 1000000 ∧ FL2 g (2 * n) ∧ (W22 x2 ∧ W22 y2 ∧ W22 z2 ∧ W22 w2) := ho
             obtain ⟨hsz1, hsz4, ho⟩ := ho
             subst hsz1
             subst hsz4
             refine ⟨?_, _, _, (vc_lcp cl cw cv k x y z w p n cl2 cw2 cv2 k2 x2 y2 z2 w2 p2 n2 t g g2).mpr ?_⟩
             · refine okFlag_mk rfl ⟨?_, ⟨trivial, serOf_spec hm0 sameN_self, ⟨trivial, (contR_flts hm1).1, ⟨fun _ _ => rfl, polE_spec hm2 sameN_self, ⟨trivial, serOf_spec hm3 sameN_self, ⟨trivial, (contR_flts hm4).1, trivial⟩⟩⟩⟩⟩⟩
               simp [eqvRL, eqvR, sgSig, fsts, nth, sameN_self]
             · obtain ⟨h1, h2, h3⟩ := ho
               unfold lcpV
               have eA : decide (n < 2 ∨ cl = true ∧ n < 3) = emp cl n := rfl
               rw [eA]
               have d0 : [x2, y2, z2, w2].getD 0 0 = x2 := rfl
               have d1 : [x2, y2, z2, w2].getD 1 0 = y2 := rfl
               have d2 : [x2, y2, z2, w2].getD 2 0 = z2 := rfl
               have d3 : [x2, y2, z2, w2].getD 3 0 = w2 := rfl
               simp only [d0, d1, d2, d3, h1, h2, h3, true_and, and_true, eq_self]
               generalize anyB (lon g n x2 y2 z2 w2) (nsg cl n (wz g)) = r
               generalize emp cl n = e1
               generalize emp cl2 n2 = e2
               generalize fNe .f64 x2 z2 = f1
               generalize fNe .f64 y2 w2 = f2
               cases e1 <;> cases e2 <;> cases f1 <;> cases f2 <;> simp
           · trivial
         · trivial
       · trivial
     · trivial
   · trivial
 · trivial
noncomputable def GLI : Ctx := ⟨⟨tys, FP⟩, [(233, conR ilFC)]⟩
theorem gLI : CtxOk Tryz.prog GLI := ⟨⟨tysOk, fpOk⟩, GamOk.cons ilF (GamOk.nil), by kernel_rfl⟩
noncomputable def lipFC : List SV → RdM
 | [.ptr l 0, .ptr P 0] => .read P fun o0 => (match polE o0.c with
   | some s => .read s fun o1 => (match serOf o1.c with
   | some (cl, cw, cv, k, x, y, z, w, p, n) => .read p fun o2 => (match fltsFrom .f64 o2.c with
   | some (m2, g) => .read l fun o3 => (match serOf o3.c with
   | some (cl2, cw2, cv2, k2, x2, y2, z2, w2, p2, n2) => .read p2 fun o4 => (match fltsFrom .f64 o4.c with
   | some (m4, g2) => .ret ⟨[.ptr 3 0, .ptr 0 0], [(0, ⟨false, 137, polC 1, 0⟩), (1, ⟨false, 150, serC cl cw cv k x y z w 2 n, 0⟩), (2, ⟨false, 100, .flts .f64 m2 g, 0⟩), (3, ⟨false, 152, serC cl2 cw2 cv2 k2 x2 y2 z2 w2 4 n2, 0⟩), (4, ⟨false, 100, .flts .f64 m4 g2, 0⟩)], .ff, [], [], some (m2 = 2 * n ∧ m4 = 2 * n2 ∧ mt4 x y z w x2 y2 z2 w2 = false)⟩
   | none => .fail)
   | none => .fail)
   | none => .fail)
   | none => .fail)
   | none => .fail)
 | _ => .fail
theorem vc_lipF (cl cw cv : Bool) (k : Int) (x y z w : Nat) (_ : Nm) (n : Nat) (cl2 cw2 cv2 : Bool) (k2 : Int) (x2 y2 z2 w2 : Nat) (_ : Nm) (n2 : Nat) (_ : Nm)  (g : Nat → Nat) (g2 : Nat → Nat) : runA GLI 5 [] [] (codeOf Tryz.f228) (init Tryz.f228.ntmps [.ptr 3 0, .ptr 0 0] [(0, ⟨false, 137, polC 1, 0⟩), (1, ⟨false, 150, serC cl cw cv k x y z w 2 n, 0⟩), (2, ⟨false, 100, .flts .f64 (2 * n) g, 0⟩), (3, ⟨false, 152, serC cl2 cw2 cv2 k2 x2 y2 z2 w2 4 n2, 0⟩), (4, ⟨false, 100, .flts .f64 (2 * n2) g2, 0⟩)] 5) (endK GLI.E.T Tryz.f228.results.toList fun S v => postP 5 ⟨[.ptr 3 0, .ptr 0 0], [(0, ⟨false, 137, polC 1, 0⟩), (1, ⟨false, 150, serC cl cw cv k x y z w 2 n, 0⟩), (2, ⟨false, 100, .flts .f64 (2 * n) g, 0⟩), (3, ⟨false, 152, serC cl2 cw2 cv2 k2 x2 y2 z2 w2 4 n2, 0⟩), (4, ⟨false, 100, .flts .f64 (2 * n2) g2, 0⟩)], .ff, [], [], some (2 * n = 2 * n ∧ 2 * n2 = 2 * n2 ∧ mt4 x y z w x2 y2 z2 w2 = false)⟩ S v) = (
(2 * n = 2 * n ∧ 2 * n2 = 2 * n2 ∧ mt4 x y z w x2 y2 z2 w2 = false) ∧ True ∧ True) := by kernel_rfl
theorem lipF : ConOk Tryz.prog 228 (conR lipFC) := by
 refine con_of_vc gLI Tryz.func228 rfl (by kernel_rfl) fun args => ?_
 unfold lipFC
 split
 · rename_i l P
   intro o0
   show RdM.All _ (match polE o0.c with | some s => _ | none => _) _
   split
   · rename_i s hm0
     intro o1
     show RdM.All _ (match serOf o1.c with | some (cl, cw, cv, k, x, y, z, w, p, n) => _ | none => _) _
     split
     · rename_i cl cw cv k x y z w p n hm1
       intro o2
       show RdM.All _ (match fltsFrom .f64 o2.c with | some (m, g) => _ | none => _) _
       split
       · rename_i m2 g hm2
         intro o3
         show RdM.All _ (match serOf o3.c with | some (cl2, cw2, cv2, k2, x2, y2, z2, w2, p2, n2) => _ | none => _) _
         split
         · rename_i cl2 cw2 cv2 k2 x2 y2 z2 w2 p2 n2 hm3
           intro o4
           show RdM.All _ (match fltsFrom .f64 o4.c with | some (m, g) => _ | none => _) _
           split
           · rename_i m4 g2 hm4
             intro ho
             replace ho : m2 = 2 * n ∧ m4 = 2 * n2 ∧ mt4 x y z w x2 y2 z2 w2 = false := ho
             obtain ⟨hsz2, hsz4, ho⟩ := ho
             subst hsz2
             subst hsz4
             refine ⟨?_, _, _, (vc_lipF cl cw cv k x y z w p n cl2 cw2 cv2 k2 x2 y2 z2 w2 p2 n2 s g g2).mpr ?_⟩
             · refine okFlag_mk rfl ⟨?_, ⟨fun _ _ => rfl, polE_spec hm0 sameN_self, ⟨trivial, serOf_spec hm1 sameN_self, ⟨trivial, (contR_flts hm2).1, ⟨trivial, serOf_spec hm3 sameN_self, ⟨trivial, (contR_flts hm4).1, trivial⟩⟩⟩⟩⟩⟩
               simp [eqvRL, eqvR, sgSig, fsts, nth, sameN_self]
             · simp [ho]
           · trivial
         · trivial
       · trivial
     · trivial
   · trivial
 · trivial
def shOk (len k l0 l1 l2 l3 : Nat) (g g0 g1 g2 g3 : Nat → Int) : Prop := hab k l0 l1 l2 l3 ∧ (len ≤ 1000000 ∧ (ppBig len true = true → ppOk (fI g) len)) ∧ (l0 ≤ 1000000 ∧ (ppBig l0 true = true → ppOk (fI g0) l0)) ∧ (l1 ≤ 1000000 ∧ (ppBig l1 true = true → ppOk (fI g1) l1)) ∧ (l2 ≤ 1000000 ∧ (ppBig l2 true = true → ppOk (fI g2) l2)) ∧ l3 ≤ 1000000 ∧ (ppBig l3 true = true → ppOk (fI g3) l3)
noncomputable def GAF : Ctx := ⟨⟨tys, FP⟩, [(64, conR optsC), (63, conR shPUC), (238, conR cpFC), (208, conR ipFC)]⟩
theorem gAF : CtxOk Tryz.prog GAF := ⟨⟨tysOk, fpOk⟩, GamOk.cons opts (GamOk.cons shPU (GamOk.cons cpF (GamOk.cons ipF (GamOk.nil)))), by kernel_rfl⟩
noncomputable def asPPFC : List SV → RdM
 | [.agg [.int .i64 3, .slcc n len, .slcc h k1], .agg [.int .i64 3, .slcc nb lenb, .slcc hb k1b], .int .i64 0, .int .i64 0] => .read n fun o0 => (match intsFrom .i64 o0.c with
   | some (m0, g) => .read h fun o1 => (match holU o1.c with
   | some (k, q0, l0, q1, l1, q2, l2, q3, l3) => .read q0 fun o2 => (match intsFrom .i64 o2.c with
   | some (m2, g0) => .read q1 fun o3 => (match intsFrom .i64 o3.c with
   | some (m3, g1) => .read q2 fun o4 => (match intsFrom .i64 o4.c with
   | some (m4, g2) => .read q3 fun o5 => (match intsFrom .i64 o5.c with
   | some (m5, g3) => .read nb fun o6 => (match intsFrom .i64 o6.c with
   | some (m6, gb) => .read hb fun o7 => (match holU o7.c with
   | some (kb, q0b, l0b, q1b, l1b, q2b, l2b, q3b, l3b) => .read q0b fun o8 => (match intsFrom .i64 o8.c with
   | some (m8, g0b) => .read q1b fun o9 => (match intsFrom .i64 o9.c with
   | some (m9, g1b) => .read q2b fun o10 => (match intsFrom .i64 o10.c with
   | some (m10, g2b) => .read q3b fun o11 => (match intsFrom .i64 o11.c with
   | some (m11, g3b) => .ret ⟨[.agg [.int .i64 3, .slcc 0 len, .slcc 1 k], .agg [.int .i64 3, .slcc 6 lenb, .slcc 7 kb], .int .i64 0, .int .i64 0], [(0, ⟨false, 23, .ints .i64 m0 g, 0⟩), (1, ⟨false, 25, .upto k [.slcc 2 l0, .slcc 3 l1, .slcc 4 l2, .slcc 5 l3], 0⟩), (2, ⟨false, 23, .ints .i64 m2 g0, 0⟩), (3, ⟨false, 23, .ints .i64 m3 g1, 0⟩), (4, ⟨false, 23, .ints .i64 m4 g2, 0⟩), (5, ⟨false, 23, .ints .i64 m5 g3, 0⟩), (6, ⟨false, 23, .ints .i64 m6 gb, 0⟩), (7, ⟨false, 25, .upto kb [.slcc 8 l0b, .slcc 9 l1b, .slcc 10 l2b, .slcc 11 l3b], 0⟩), (8, ⟨false, 23, .ints .i64 m8 g0b, 0⟩), (9, ⟨false, 23, .ints .i64 m9 g1b, 0⟩), (10, ⟨false, 23, .ints .i64 m10 g2b, 0⟩), (11, ⟨false, 23, .ints .i64 m11 g3b, 0⟩)], .tup [.ff, .ff], [], [], some (k = k1 ∧ kb = k1b ∧ m0 = 2 * len ∧ m2 = 2 * l0 ∧ m3 = 2 * l1 ∧ m4 = 2 * l2 ∧ m5 = 2 * l3 ∧ m6 = 2 * lenb ∧ m8 = 2 * l0b ∧ m9 = 2 * l1b ∧ m10 = 2 * l2b ∧ m11 = 2 * l3b ∧ shOk len k l0 l1 l2 l3 g g0 g1 g2 g3 ∧ shOk lenb kb l0b l1b l2b l3b gb g0b g1b g2b g3b ∧ inF (rX0 g len true) (rX1 g len true) (rX2 g len true) (rX3 g len true) (rX0 gb lenb true) (rX1 gb lenb true) (rX2 gb lenb true) (rX3 gb lenb true) = false ∧ mt4 (rX0 gb lenb true) (rX1 gb lenb true) (rX2 gb lenb true) (rX3 gb lenb true) (rX0 g len true) (rX1 g len true) (rX2 g len true) (rX3 g len true) = false)⟩
   | none => .fail)
   | none => .fail)
   | none => .fail)
   | none => .fail)
   | none => .fail)
   | none => .fail)
   | none => .fail)
   | none => .fail)
   | none => .fail)
   | none => .fail)
   | none => .fail)
   | none => .fail)
 | _ => .fail
theorem vc_asPPF (len k l0 l1 l2 l3 : Nat) (_ _ _ _ : Nm) (lenb kb l0b l1b l2b l3b : Nat) (_ _ _ _ : Nm)  (g : Nat → Int) (g0 : Nat → Int) (g1 : Nat → Int) (g2 : Nat → Int) (g3 : Nat → Int) (gb : Nat → Int) (g0b : Nat → Int) (g1b : Nat → Int) (g2b : Nat → Int) (g3b : Nat → Int) : runA GAF 12 [] [] (codeOf Tryz.f39) (init Tryz.f39.ntmps [.agg [.int .i64 3, .slcc 0 len, .slcc 1 k], .agg [.int .i64 3, .slcc 6 lenb, .slcc 7 kb], .int .i64 0, .int .i64 0] [(0, ⟨false, 23, .ints .i64 (2 * len) g, 0⟩), (1, ⟨false, 25, .upto k [.slcc 2 l0, .slcc 3 l1, .slcc 4 l2, .slcc 5 l3], 0⟩), (2, ⟨false, 23, .ints .i64 (2 * l0) g0, 0⟩), (3, ⟨false, 23, .ints .i64 (2 * l1) g1, 0⟩), (4, ⟨false, 23, .ints .i64 (2 * l2) g2, 0⟩), (5, ⟨false, 23, .ints .i64 (2 * l3) g3, 0⟩), (6, ⟨false, 23, .ints .i64 (2 * lenb) gb, 0⟩), (7, ⟨false, 25, .upto kb [.slcc 8 l0b, .slcc 9 l1b, .slcc 10 l2b, .slcc 11 l3b], 0⟩), (8, ⟨false, 23, .ints .i64 (2 * l0b) g0b, 0⟩), (9, ⟨false, 23, .ints .i64 (2 * l1b) g1b, 0⟩), (10, ⟨false, 23, .ints .i64 (2 * l2b) g2b, 0⟩), (11, ⟨false, 23, .ints .i64 (2 * l3b) g3b, 0⟩)] 12) (endK GAF.E.T Tryz.f39.results.toList fun S v => postP 12 ⟨[.agg [.int .i64 3, .slcc 0 len, .slcc 1 k], .agg [.int .i64 3, .slcc 6 lenb, .slcc 7 kb], .int .i64 0, .int .i64 0], [(0, ⟨false, 23, .ints .i64 (2 * len) g, 0⟩), (1, ⟨false, 25, .upto k [.slcc 2 l0, .slcc 3 l1, .slcc 4 l2, .slcc 5 l3], 0⟩), (2, ⟨false, 23, .ints .i64 (2 * l0) g0, 0⟩), (3, ⟨false, 23, .ints .i64 (2 * l1) g1, 0⟩), (4, ⟨false, 23, .ints .i64 (2 * l2) g2, 0⟩), (5, ⟨false, 23, .ints .i64 (2 * l3) g3, 0⟩), (6, ⟨false, 23, .ints .i64 (2 * lenb) gb, 0⟩), (7, ⟨false, 25, .upto kb [.slcc 8 l0b, .slcc 9 l1b, .slcc 10 l2b, .slcc 11 l3b], 0⟩), (8, ⟨false, 23, .ints .i64 (2 * l0b) g0b, 0⟩), (9, ⟨false, 23, .ints .i64 (2 * l1b) g1b, 0⟩), (10, ⟨false, 23, .ints .i64 (2 * l2b) g2b, 0⟩), (11, ⟨false, 23, .ints .i64 (2 * l3b) g3b, 0⟩)], .tup [.ff, .ff], [], [], some (k = k ∧ kb = kb ∧ 2 * len = 2 * len ∧ 2 * l0 = 2 * l0 ∧ 2 * l1 = 2 * l1 ∧ 2 * l2 = 2 * l2 ∧ 2 * l3 = 2 * l3 ∧ 2 * lenb = 2 * lenb ∧ 2 * l0b = 2 * l0b ∧ 2 * l1b = 2 * l1b ∧ 2 * l2b = 2 * l2b ∧ 2 * l3b = 2 * l3b ∧ shOk len k l0 l1 l2 l3 g g0 g1 g2 g3 ∧ shOk lenb kb l0b l1b l2b l3b gb g0b g1b g2b g3b ∧ inF (rX0 g len true) (rX1 g len true) (rX2 g len true) (rX3 g len true) (rX0 gb lenb true) (rX1 gb lenb true) (rX2 gb lenb true) (rX3 gb lenb true) = false ∧ mt4 (rX0 gb lenb true) (rX1 gb lenb true) (rX2 gb lenb true) (rX3 gb lenb true) (rX0 g len true) (rX1 g len true) (rX2 g len true) (rX3 g len true) = false)⟩ S v) = (
 True ∧ (k = k ∧ 2 * len = 2 * len ∧ 2 * l0 = 2 * l0 ∧ 2 * l1 = 2 * l1 ∧ 2 * l2 = 2 * l2 ∧ 2 * l3 = 2 * l3 ∧ hab k l0 l1 l2 l3 ∧ (0 : Int) = 0 ∧
(len ≤ 1000000 ∧ (ppBig len true = true → ppOk (fI g) len)) ∧ (l0 ≤ 1000000 ∧ (ppBig l0 true = true → ppOk (fI g0) l0)) ∧ (l1
≤ 1000000 ∧ (ppBig l1 true = true → ppOk (fI g1) l1)) ∧ (l2 ≤ 1000000 ∧ (ppBig l2 true = true → ppOk (fI g2) l2)) ∧ l3 ≤
1000000 ∧ (ppBig l3 true = true → ppOk (fI g3) l3)) ∧ (false = true → False) ∧ (false = false → (false = true → False) ∧ (false = false → (true = true → (kb = kb ∧ 2 * lenb = 2 * lenb ∧ 2 * l0b = 2 * l0b ∧ 2 * l1b = 2 * l1b ∧ 2 * l2b = 2 * l2b ∧ 2 * l3b = 2 * l3b ∧ hab kb l0b l1b l2b l3b ∧ (0 : Int) = 0 ∧ (lenb ≤ 1000000 ∧
(ppBig lenb true = true → ppOk (fI gb) lenb)) ∧ (l0b ≤ 1000000 ∧ (ppBig l0b true = true → ppOk (fI g0b) l0b)) ∧ (l1b ≤ 1000000
∧ (ppBig l1b true = true → ppOk (fI g1b) l1b)) ∧ (l2b ≤ 1000000 ∧ (ppBig l2b true = true → ppOk (fI g2b) l2b)) ∧ l3b ≤ 1000000
∧ (ppBig l3b true = true → ppOk (fI g3b) l3b)) ∧ (2 * len = 2 * len ∧ 2 * lenb = 2 * lenb ∧ inF (pick (ppBig
 len true) (rlo (fI g) 0 len)) (pick (ppBig len true) (rlo (fI g) 1 len)) (pick (ppBig len
 true) (rhi (fI g) 0 len)) (pick (ppBig len true) (rhi (fI g) 1 len)) (pick (ppBig lenb
 true) (rlo (fI gb) 0 lenb)) (pick (ppBig lenb true) (rlo (fI gb) 1 lenb)) (pick (ppBig
 lenb true) (rhi (fI gb) 0 lenb)) (pick (ppBig lenb true) (rhi (fI gb) 1 lenb)) = false) ∧ (2 * len = 2 * len ∧
2 * lenb = 2 * lenb ∧ mt4 (pick (ppBig lenb true) (rlo (fI gb) 0 lenb)) (pick (ppBig lenb true)
(rlo (fI gb) 1 lenb)) (pick (ppBig lenb true) (rhi (fI gb) 0 lenb)) (pick (ppBig lenb
 true) (rhi (fI gb) 1 lenb)) (pick (ppBig len true) (rlo (fI g) 0 len)) (pick (ppBig len
 true) (rlo (fI g) 1 len)) (pick (ppBig len true) (rhi (fI g) 0 len)) (pick (ppBig len
 true) (rhi (fI g) 1 len)) = false) ∧ (True ∧ True ∧ True) ∧ True) ∧ (true = false → False)))) := by kernel_rfl
theorem asPPF : ConOk Tryz.prog 39 (conR asPPFC) := by
 refine con_of_vc gAF Tryz.func39 rfl (by kernel_rfl) fun args => ?_
 unfold asPPFC
 split
 · rename_i n len h k1 nb lenb hb k1b
   intro o0
   show RdM.All _ (match intsFrom .i64 o0.c with | some (m, g) => _ | none => _) _
   split
   · rename_i m0 g hm0
     intro o1
     show RdM.All _ (match holU o1.c with | some (k, q0, l0, q1, l1, q2, l2, q3, l3) => _ | none => _) _
     split
     · rename_i k q0 l0 q1 l1 q2 l2 q3 l3 hm1
       intro o2
       show RdM.All _ (match intsFrom .i64 o2.c with | some (m, g) => _ | none => _) _
       split
       · rename_i m2 g0 hm2
         intro o3
         show RdM.All _ (match intsFrom .i64 o3.c with | some (m, g) => _ | none => _) _
         split
         · rename_i m3 g1 hm3
           intro o4
           show RdM.All _ (match intsFrom .i64 o4.c with | some (m, g) => _ | none => _) _
           split
           · rename_i m4 g2 hm4
             intro o5
             show RdM.All _ (match intsFrom .i64 o5.c with | some (m, g) => _ | none => _) _
             split
             · rename_i m5 g3 hm5
               intro o6
               show RdM.All _ (match intsFrom .i64 o6.c with | some (m, g) => _ | none => _) _
               split
               · rename_i m6 gb hm6
                 intro o7
                 show RdM.All _ (match holU o7.c with | some (kb, q0b, l0b, q1b, l1b, q2b, l2b, q3b, l3b) => _ | none => _) _
                 split
                 · rename_i kb q0b l0b q1b l1b q2b l2b q3b l3b hm7
                   intro o8
                   show RdM.All _ (match intsFrom .i64 o8.c with | some (m, g) => _ | none => _) _
                   split
                   · rename_i m8 g0b hm8
                     intro o9
                     show RdM.All _ (match intsFrom .i64 o9.c with | some (m, g) => _ | none => _) _
                     split
                     · rename_i m9 g1b hm9
                       intro o10
                       show RdM.All _ (match intsFrom .i64 o10.c with | some (m, g) => _ | none => _) _
                       split
                       · rename_i m10 g2b hm10
                         intro o11
                         show RdM.All _ (match intsFrom .i64 o11.c with | some (m, g) => _ | none => _) _
                         split
                         · rename_i m11 g3b hm11
                           intro ho
                           replace ho : k = k1 ∧ kb = k1b ∧ m0 = 2 * len ∧ m2 = 2 * l0 ∧ m3 = 2 * l1 ∧ m4 = 2 * l2 ∧ m5 = 2 * l3 ∧ m6 = 2 * lenb ∧ m8 = 2 * l0b ∧ m9 = 2 * l1b ∧ m10 = 2 * l2b ∧ m11 = 2 * l3b ∧ shOk len k l0 l1 l2 l3 g g0 g1 g2 g3 ∧ shOk lenb kb l0b l1b l2b l3b gb g0b g1b g2b g3b ∧ inF (rX0 g len true) (rX1 g len true) (rX2 g len true) (rX3 g len true) (rX0 gb lenb true) (rX1 gb lenb true) (rX2 gb lenb true) (rX3 gb lenb true) = false ∧ mt4 (rX0 gb lenb true) (rX1 gb lenb true) (rX2 gb lenb true) (rX3 gb lenb true) (rX0 g len true) (rX1 g len true) (rX2 g len true) (rX3 g len true) = false := ho
                           obtain ⟨heq0, heq1, hsz0, hsz2, hsz3, hsz4, hsz5, hsz6, hsz8, hsz9, hsz10, hsz11, ho⟩ := ho
                           subst heq0
                           subst heq1
                           subst hsz0
                           subst hsz2
                           subst hsz3
                           subst hsz4
                           subst hsz5
                           subst hsz6
                           subst hsz8
                           subst hsz9
                           subst hsz10
                           subst hsz11
                           refine ⟨?_, _, _, (vc_asPPF len k l0 l1 l2 l3 q0 q1 q2 q3 lenb kb l0b l1b l2b l3b q0b q1b q2b q3b g g0 g1 g2 g3 gb g0b g1b g2b g3b).mpr ?_⟩
                           · change callP _ _ [(n, o0), (h, o1), (q0, o2), (q1, o3), (q2, o4), (q3, o5), (nb, o6), (hb, o7), (q0b, o8), (q1b, o9), (q2b, o10), (q3b, o11)] _
                             refine okFlag_mk rfl ⟨?_, ⟨trivial, (contR_ints hm0).1, ⟨trivial, holU_spec hm1 sameN_self sameN_self sameN_self sameN_self, ⟨trivial, (contR_ints hm2).1, ⟨trivial, (contR_ints hm3).1, ⟨trivial, (contR_ints hm4).1, ⟨trivial, (contR_ints hm5).1, ⟨trivial, (contR_ints hm6).1, ⟨trivial, holU_spec hm7 sameN_self sameN_self sameN_self sameN_self, ⟨trivial, (contR_ints hm8).1, ⟨trivial, (contR_ints hm9).1, ⟨trivial, (contR_ints hm10).1, ⟨trivial, (contR_ints hm11).1, trivial⟩⟩⟩⟩⟩⟩⟩⟩⟩⟩⟩⟩⟩
                             simp [eqvRL, eqvR, kEq_self, sgSig, fsts, nth, sameN_self]
                           · obtain ⟨h1, h2, h3, h4⟩ := ho
                             simp only [true_and, and_true, eq_self, Bool.false_eq_true, Bool.true_eq_false, false_implies, true_implies]
                             exact ⟨h1, h2, h3, h4⟩
                         · trivial
                       · trivial
                     · trivial
                   · trivial
                 · trivial
               · trivial
             · trivial
           · trivial
         · trivial
       · trivial
     · trivial
   · trivial
 · trivial
noncomputable def GAL : Ctx := ⟨⟨tys, FP⟩, [(64, conR optsC), (63, conR shPUC), (74, conR ptsC), (73, conR newLineC), (237, conR clFC), (233, conR ilFC)]⟩
theorem gAL : CtxOk Tryz.prog GAL := ⟨⟨tysOk, fpOk⟩, GamOk.cons opts (GamOk.cons shPU (GamOk.cons pts (GamOk.cons newLine (GamOk.cons clF (GamOk.cons ilF (GamOk.nil)))))), by kernel_rfl⟩
noncomputable def asPLFC : List SV → RdM
 | [.agg [.int .i64 3, .slcc n len, .slcc h k1], .agg [.int .i64 2, .slcc m ll, .nils], .int .i64 0, .int .i64 0] => .read n fun o0 => (match intsFrom .i64 o0.c with
   | some (m0, g) => .read h fun o1 => (match holU o1.c with
   | some (k, q0, l0, q1, l1, q2, l2, q3, l3) => .read q0 fun o2 => (match intsFrom .i64 o2.c with
   | some (m2, g0) => .read q1 fun o3 => (match intsFrom .i64 o3.c with
   | some (m3, g1) => .read q2 fun o4 => (match intsFrom .i64 o4.c with
   | some (m4, g2) => .read q3 fun o5 => (match intsFrom .i64 o5.c with
   | some (m5, g3) => .read m fun o6 => (match intsFrom .i64 o6.c with
   | some (m6, gl) => .ret ⟨[.agg [.int .i64 3, .slcc 0 len, .slcc 1 k], .agg [.int .i64 2, .slcc 6 ll, .nils], .int .i64 0, .int .i64 0], [(0, ⟨false, 23, .ints .i64 m0 g, 0⟩), (1, ⟨false, 25, .upto k [.slcc 2 l0, .slcc 3 l1, .slcc 4 l2, .slcc 5 l3], 0⟩), (2, ⟨false, 23, .ints .i64 m2 g0, 0⟩), (3, ⟨false, 23, .ints .i64 m3 g1, 0⟩), (4, ⟨false, 23, .ints .i64 m4 g2, 0⟩), (5, ⟨false, 23, .ints .i64 m5 g3, 0⟩), (6, ⟨false, 23, .ints .i64 m6 gl, 0⟩)], .tup [.ff, .ff], [], [], some (k = k1 ∧ m0 = 2 * len ∧ m2 = 2 * l0 ∧ m3 = 2 * l1 ∧ m4 = 2 * l2 ∧ m5 = 2 * l3 ∧ m6 = 2 * ll ∧ shOk len k l0 l1 l2 l3 g g0 g1 g2 g3 ∧ (ll ≤ 1000000 ∧ (ppBig ll false = true → ppOk (fI gl) ll)) ∧ inF (rX0 g len true) (rX1 g len true) (rX2 g len true) (rX3 g len true) (rX0 gl ll false) (rX1 gl ll false) (rX2 gl ll false) (rX3 gl ll false) = false ∧ mt4 (rX0 g len true) (rX1 g len true) (rX2 g len true) (rX3 g len true) (rX0 gl ll false) (rX1 gl ll false) (rX2 gl ll false) (rX3 gl ll false) = false)⟩
   | none => .fail)
   | none => .fail)
   | none => .fail)
   | none => .fail)
   | none => .fail)
   | none => .fail)
   | none => .fail)
 | _ => .fail
theorem vc_asPLF (len k l0 l1 l2 l3 : Nat) (_ _ _ _ : Nm) (ll : Nat)  (g : Nat → Int) (g0 : Nat → Int) (g1 : Nat → Int) (g2 : Nat → Int) (g3 : Nat → Int) (gl : Nat → Int) : runA GAL 7 [] [] (codeOf Tryz.f39) (init Tryz.f39.ntmps [.agg [.int .i64 3, .slcc 0 len, .slcc 1 k], .agg [.int .i64 2, .slcc 6 ll, .nils], .int .i64 0, .int .i64 0] [(0, ⟨false, 23, .ints .i64 (2 * len) g, 0⟩), (1, ⟨false, 25, .upto k [.slcc 2 l0, .slcc 3 l1, .slcc 4 l2, .slcc 5 l3], 0⟩), (2, ⟨false, 23, .ints .i64 (2 * l0) g0, 0⟩), (3, ⟨false, 23, .ints .i64 (2 * l1) g1, 0⟩), (4, ⟨false, 23, .ints .i64 (2 * l2) g2, 0⟩), (5, ⟨false, 23, .ints .i64 (2 * l3) g3, 0⟩), (6, ⟨false, 23, .ints .i64 (2 * ll) gl, 0⟩)] 7) (endK GAL.E.T Tryz.f39.results.toList fun S v => postP 7 ⟨[.agg [.int .i64 3, .slcc 0 len, .slcc 1 k], .agg [.int .i64 2, .slcc 6 ll, .nils], .int .i64 0, .int .i64 0], [(0, ⟨false, 23, .ints .i64 (2 * len) g, 0⟩), (1, ⟨false, 25, .upto k [.slcc 2 l0, .slcc 3 l1, .slcc 4 l2, .slcc 5 l3], 0⟩), (2, ⟨false, 23, .ints .i64 (2 * l0) g0, 0⟩), (3, ⟨false, 23, .ints .i64 (2 * l1) g1, 0⟩), (4, ⟨false, 23, .ints .i64 (2 * l2) g2, 0⟩), (5, ⟨false, 23, .ints .i64 (2 * l3) g3, 0⟩), (6, ⟨false, 23, .ints .i64 (2 * ll) gl, 0⟩)], .tup [.ff, .ff], [], [], some (k = k ∧ 2 * len = 2 * len ∧ 2 * l0 = 2 * l0 ∧ 2 * l1 = 2 * l1 ∧ 2 * l2 = 2 * l2 ∧ 2 * l3 = 2 * l3 ∧ 2 * ll = 2 * ll ∧ shOk len k l0 l1 l2 l3 g g0 g1 g2 g3 ∧ (ll ≤ 1000000 ∧ (ppBig ll false = true → ppOk (fI gl) ll)) ∧ inF (rX0 g len true) (rX1 g len true) (rX2 g len true) (rX3 g len true) (rX0 gl ll false) (rX1 gl ll false) (rX2 gl ll false) (rX3 gl ll false) = false ∧ mt4 (rX0 g len true) (rX1 g len true) (rX2 g len true) (rX3 g len true) (rX0 gl ll false) (rX1 gl ll false) (rX2 gl ll false) (rX3 gl ll false) = false)⟩ S v) = (
 True ∧ (k = k ∧ 2 * len = 2 * len ∧ 2 * l0 = 2 * l0 ∧ 2 * l1 = 2 * l1 ∧ 2 * l2 = 2 * l2 ∧ 2 * l3 = 2 * l3 ∧ hab k l0 l1 l2 l3 ∧ (0 : Int) = 0 ∧
(len ≤ 1000000 ∧ (ppBig len true = true → ppOk (fI g) len)) ∧ (l0 ≤ 1000000 ∧ (ppBig l0 true = true → ppOk (fI g0) l0)) ∧ (l1
≤ 1000000 ∧ (ppBig l1 true = true → ppOk (fI g1) l1)) ∧ (l2 ≤ 1000000 ∧ (ppBig l2 true = true → ppOk (fI g2) l2)) ∧ l3 ≤
1000000 ∧ (ppBig l3 true = true → ppOk (fI g3) l3)) ∧ (false = true → False) ∧ (false = false → (true = true → (2 * ll = 2 * ll ∧ ll ≤ 1000000) ∧ (2 * ll =
2 * ll ∧ (0 : Int) = 0 ∧ ll ≤ 1000000 ∧ (ppBig ll false = true → ppOk (fI gl) ll)) ∧ (2 * len = 2 * len ∧ 2 * ll = 2 * ll ∧
 inF (pick (ppBig len true) (rlo (fI g) 0 len)) (pick (ppBig len true) (rlo (fI
 g) 1 len)) (pick (ppBig len true) (rhi (fI g) 0 len)) (pick (ppBig len true) (rhi (fI g)
1 len)) (pick (ppBig ll false) (rlo (fI gl) 0 ll)) (pick (ppBig ll false) (rlo (fI gl) 1 ll)) (pick (ppBig ll false) (rhi (fI gl) 0 ll)) (pick (ppBig ll false) (rhi (fI gl) 1 ll)) = false) ∧ (2 * len = 2 * len ∧ 2 * ll = 2 * ll ∧ mt4 (pick (ppBig len true) (rlo (fI g) 0 len))
(pick (ppBig len true) (rlo (fI g) 1 len)) (pick (ppBig len true) (rhi (fI g) 0 len))
(pick (ppBig len true) (rhi (fI g) 1 len)) (pick (ppBig ll false) (rlo (fI gl) 0 ll))
(pick (ppBig ll false) (rlo (fI gl) 1 ll)) (pick (ppBig ll false) (rhi (fI gl) 0 ll))
(pick (ppBig ll false) (rhi (fI gl) 1 ll)) = false) ∧ (True ∧ True ∧ True) ∧ True) ∧ (true = false → (false = true → False) ∧ (false = false → False)))) := by kernel_rfl
theorem asPLF : ConOk Tryz.prog 39 (conR asPLFC) := by
 refine con_of_vc gAL Tryz.func39 rfl (by kernel_rfl) fun args => ?_
 unfold asPLFC
 split
 · rename_i n len h k1 m ll
   intro o0
   show RdM.All _ (match intsFrom .i64 o0.c with | some (m, g) => _ | none => _) _
   split
   · rename_i m0 g hm0
     intro o1
     show RdM.All _ (match holU o1.c with | some (k, q0, l0, q1, l1, q2, l2, q3, l3) => _ | none => _) _
     split
     · rename_i k q0 l0 q1 l1 q2 l2 q3 l3 hm1
       intro o2
       show RdM.All _ (match intsFrom .i64 o2.c with | some (m, g) => _ | none => _) _
       split
       · rename_i m2 g0 hm2
         intro o3
         show RdM.All _ (match intsFrom .i64 o3.c with | some (m, g) => _ | none => _) _
         split
         · rename_i m3 g1 hm3
           intro o4
           show RdM.All _ (match intsFrom .i64 o4.c with | some (m, g) => _ | none => _) _
           split
           · rename_i m4 g2 hm4
             intro o5
             show RdM.All _ (match intsFrom .i64 o5.c with | some (m, g) => _ | none => _) _
             split
             · rename_i m5 g3 hm5
               intro o6
               show RdM.All _ (match intsFrom .i64 o6.c with | some (m, g) => _ | none => _) _
               split
               · rename_i m6 gl hm6
                 intro ho
                 replace ho : k = k1 ∧ m0 = 2 * len ∧ m2 = 2 * l0 ∧ m3 = 2 * l1 ∧ m4 = 2 * l2 ∧ m5 = 2 * l3 ∧ m6 = 2 * ll ∧ shOk len k l0 l1 l2 l3 g g0 g1 g2 g3 ∧ (ll ≤ 1000000 ∧ (ppBig ll false = true → ppOk (fI gl) ll)) ∧ inF (rX0 g len true) (rX1 g len true) (rX2 g len true) (rX3 g len true) (rX0 gl ll false) (rX1 gl ll false) (rX2 gl ll false) (rX3 gl ll false) = false ∧ mt4 (rX0 g len true) (rX1 g len true) (rX2 g len true) (rX3 g len true) (rX0 gl ll false) (rX1 gl ll false) (rX2 gl ll false) (rX3 gl ll false) = false := ho
                 obtain ⟨heq0, hsz0, hsz2, hsz3, hsz4, hsz5, hsz6, ho⟩ := ho
                 subst heq0
                 subst hsz0
                 subst hsz2
                 subst hsz3
                 subst hsz4
                 subst hsz5
                 subst hsz6
                 refine ⟨?_, _, _, (vc_asPLF len k l0 l1 l2 l3 q0 q1 q2 q3 ll g g0 g1 g2 g3 gl).mpr ?_⟩
                 · refine okFlag_mk rfl ⟨?_, ⟨trivial, (contR_ints hm0).1, ⟨trivial, holU_spec hm1 sameN_self sameN_self sameN_self sameN_self, ⟨trivial, (contR_ints hm2).1, ⟨trivial, (contR_ints hm3).1, ⟨trivial, (contR_ints hm4).1, ⟨trivial, (contR_ints hm5).1, ⟨trivial, (contR_ints hm6).1, trivial⟩⟩⟩⟩⟩⟩⟩⟩
                   simp [eqvRL, eqvR, kEq_self, sgSig, fsts, nth, sameN_self]
                 · obtain ⟨h1, h2, h3, h4⟩ := ho
                   simp only [true_and, and_true, eq_self, Bool.false_eq_true, Bool.true_eq_false, false_implies, true_implies]
                   exact ⟨h1, h2.1, h2, h3, h4⟩
               · trivial
             · trivial
           · trivial
         · trivial
       · trivial
     · trivial
   · trivial
 · trivial
def isLn : List SV → Bool
 | [.agg (.int _ (.ofNat 2) :: _), _] => true
 | _ => false
noncomputable def GAP : Ctx := ⟨⟨tys, FP⟩, [(64, conR optsC), (63, swC isLn (conR shaped2C) (conR shPUC)), (224, conR lcpC), (228, conR lipFC)]⟩
theorem gAP : CtxOk Tryz.prog GAP := ⟨⟨tysOk, fpOk⟩, GamOk.cons opts (GamOk.cons (ConOk.sw shaped2 shPU) (GamOk.cons lcp (GamOk.cons lipF GamOk.nil))), by kernel_rfl⟩
noncomputable def asLPFC : List SV → RdM
 | [.agg [.int .i64 2, .slcc m ll, .nils], .agg [.int .i64 3, .slcc n len, .slcc h k1], .int .i64 0, .int .i64 0] => .read n fun o0 => (match intsFrom .i64 o0.c with
   | some (m0, g) => .read h fun o1 => (match holU o1.c with
   | some (k, q0, l0, q1, l1, q2, l2, q3, l3) => .read q0 fun o2 => (match intsFrom .i64 o2.c with
   | some (m2, g0) => .read q1 fun o3 => (match intsFrom .i64 o3.c with
   | some (m3, g1) => .read q2 fun o4 => (match intsFrom .i64 o4.c with
   | some (m4, g2) => .read q3 fun o5 => (match intsFrom .i64 o5.c with
   | some (m5, g3) => .read m fun o6 => (match intsFrom .i64 o6.c with
   | some (m6, gl) => .ret ⟨[.agg [.int .i64 2, .slcc 6 ll, .nils], .agg [.int .i64 3, .slcc 0 len, .slcc 1 k], .int .i64 0, .int .i64 0], [(0, ⟨false, 23, .ints .i64 m0 g, 0⟩), (1, ⟨false, 25, .upto k [.slcc 2 l0, .slcc 3 l1, .slcc 4 l2, .slcc 5 l3], 0⟩), (2, ⟨false, 23, .ints .i64 m2 g0, 0⟩), (3, ⟨false, 23, .ints .i64 m3 g1, 0⟩), (4, ⟨false, 23, .ints .i64 m4 g2, 0⟩), (5, ⟨false, 23, .ints .i64 m5 g3, 0⟩), (6, ⟨false, 23, .ints .i64 m6 gl, 0⟩)], .tup [.bool (lcpV (fI gl) ll false len true (rX0 g len true) (rX1 g len true) (rX2 g len true) (rX3 g len true)), .ff], [], [], some (k = k1 ∧ m0 = 2 * len ∧ m2 = 2 * l0 ∧ m3 = 2 * l1 ∧ m4 = 2 * l2 ∧ m5 = 2 * l3 ∧ m6 = 2 * ll ∧ shOk len k l0 l1 l2 l3 g g0 g1 g2 g3 ∧ (ll ≤ 1000000 ∧ (ppBig ll false = true → ppOk (fI gl) ll)) ∧ (FL2 (fI gl) (2 * ll) ∧ W22 (rX0 g len true) ∧ W22 (rX1 g len true) ∧ W22 (rX2 g len true) ∧ W22 (rX3 g len true)) ∧ mt4 (rX0 g len true) (rX1 g len true) (rX2 g len true) (rX3 g len true) (rX0 gl ll false) (rX1 gl ll false) (rX2 gl ll false) (rX3 gl ll false) = false)⟩
   | none => .fail)
   | none => .fail)
   | none => .fail)
   | none => .fail)
   | none => .fail)
   | none => .fail)
   | none => .fail)
 | _ => .fail
theorem vc_asLPF (len k l0 l1 l2 l3 : Nat) (_ _ _ _ : Nm) (ll : Nat)  (g : Nat → Int) (g0 : Nat → Int) (g1 : Nat → Int) (g2 : Nat → Int) (g3 : Nat → Int) (gl : Nat → Int) : runA GAP 7 [] [] (codeOf Tryz.f39) (init Tryz.f39.ntmps [.agg [.int .i64 2, .slcc 6 ll, .nils], .agg [.int .i64 3, .slcc 0 len, .slcc 1 k], .int .i64 0, .int .i64 0] [(0, ⟨false, 23, .ints .i64 (2 * len) g, 0⟩), (1, ⟨false, 25, .upto k [.slcc 2 l0, .slcc 3 l1, .slcc 4 l2, .slcc 5 l3], 0⟩), (2, ⟨false, 23, .ints .i64 (2 * l0) g0, 0⟩), (3, ⟨false, 23, .ints .i64 (2 * l1) g1, 0⟩), (4, ⟨false, 23, .ints .i64 (2 * l2) g2, 0⟩), (5, ⟨false, 23, .ints .i64 (2 * l3) g3, 0⟩), (6, ⟨false, 23, .ints .i64 (2 * ll) gl, 0⟩)] 7) (endK GAP.E.T Tryz.f39.results.toList fun S v => postP 7 ⟨[.agg [.int .i64 2, .slcc 6 ll, .nils], .agg [.int .i64 3, .slcc 0 len, .slcc 1 k], .int .i64 0, .int .i64 0], [(0, ⟨false, 23, .ints .i64 (2 * len) g, 0⟩), (1, ⟨false, 25, .upto k [.slcc 2 l0, .slcc 3 l1, .slcc 4 l2, .slcc 5 l3], 0⟩), (2, ⟨false, 23, .ints .i64 (2 * l0) g0, 0⟩), (3, ⟨false, 23, .ints .i64 (2 * l1) g1, 0⟩), (4, ⟨false, 23, .ints .i64 (2 * l2) g2, 0⟩), (5, ⟨false, 23, .ints .i64 (2 * l3) g3, 0⟩), (6, ⟨false, 23, .ints .i64 (2 * ll) gl, 0⟩)], .tup [.bool (lcpV (fI gl) ll false len true (rX0 g len true) (rX1 g len true) (rX2 g len true) (rX3 g len true)), .ff], [], [], some (k = k ∧ 2 * len = 2 * len ∧ 2 * l0 = 2 * l0 ∧ 2 * l1 = 2 * l1 ∧ 2 * l2 = 2 * l2 ∧ 2 * l3 = 2 * l3 ∧ 2 * ll = 2 * ll ∧ shOk len k l0 l1 l2 l3 g g0 g1 g2 g3 ∧ (ll ≤ 1000000 ∧ (ppBig ll false = true → ppOk (fI gl) ll)) ∧ (FL2 (fI gl) (2 * ll) ∧ W22 (rX0 g len true) ∧ W22 (rX1 g len true) ∧ W22 (rX2 g len true) ∧ W22 (rX3 g len true)) ∧ mt4 (rX0 g len true) (rX1 g len true) (rX2 g len true) (rX3 g len true) (rX0 gl ll false) (rX1 gl ll false) (rX2 gl ll false) (rX3 gl ll false) = false)⟩ S v) = (
 True ∧ (2 * ll = 2 * ll ∧ (0 : Int) = 0 ∧ ll ≤ 1000000 ∧ (ppBig ll false = true → ppOk (fI gl) ll)) ∧ (false = true → False) ∧ (false = false → (false = true →
 False) ∧ (false = false → (true = true → (k = k ∧ 2 * len = 2 * len ∧ 2 * l0 = 2 * l0 ∧ 2 * l1 = 2 * l1 ∧ 2 * l2 = 2 * l2 ∧ 2 * l3 = 2 * l3 ∧ hab k l0
 l1 l2 l3 ∧ (0 : Int) = 0 ∧ (len ≤ 1000000 ∧ (ppBig len true = true → ppOk (fI g) len)) ∧ (l0 ≤ 1000000 ∧ (ppBig l0 true = true → ppOk
(fI g0) l0)) ∧ (l1 ≤ 1000000 ∧ (ppBig l1 true = true → ppOk (fI g1) l1)) ∧ (l2 ≤ 1000000 ∧ (ppBig l2 true = true → ppOk
(fI g2) l2)) ∧ l3 ≤ 1000000 ∧ (ppBig l3 true = true → ppOk (fI g3) l3)) ∧ (2 * ll = 2 * ll ∧ 2 * len = 2 * len ∧ ll ≤ 1000000 ∧
 FL2 (fI gl) (2 * ll) ∧ W22 (pick (ppBig len true) (rlo (fI g) 0 len)) ∧ W22
(pick (ppBig len true) (rlo (fI g) 1 len)) ∧ W22 (pick (ppBig len true) (rhi (fI
 g) 0 len)) ∧ W22 (pick (ppBig len true) (rhi (fI g) 1 len))) ∧ (2 * len = 2 * len ∧ 2 * ll = 2 * ll ∧
 mt4 (pick (ppBig len true) (rlo (fI g) 0 len)) (pick (ppBig len true) (rlo (fI
 g) 1 len)) (pick (ppBig len true) (rhi (fI g) 0 len)) (pick (ppBig len true) (rhi (fI g)
1 len)) (pick (ppBig ll false) (rlo (fI gl) 0 ll)) (pick (ppBig ll false) (rlo (fI gl) 1 ll)) (pick (ppBig ll false) (rhi (fI gl) 0 ll)) (pick (ppBig ll false) (rhi (fI gl) 1 ll)) = false) ∧ (lcpV (fI gl) ll false len true (pick (ppBig len true) (rlo (fI g) 0 len)) (pick
(ppBig len true) (rlo (fI g) 1 len)) (pick (ppBig len true) (rhi (fI g) 0 len)) (pick
(ppBig len true) (rhi (fI g) 1 len)) = lcpV (fI gl) ll false len true (rX0 g len true) (rX1 g len true)
(rX2 g len true) (rX3 g len true) ∧ True ∧ True) ∧ True) ∧ (true = false → False)))) := by kernel_rfl
theorem asLPF : ConOk Tryz.prog 39 (conR asLPFC) := by
 refine con_of_vc gAP Tryz.func39 rfl (by kernel_rfl) fun args => ?_
 unfold asLPFC
 split
 · rename_i m ll n len h k1
   intro o0
   show RdM.All _ (match intsFrom .i64 o0.c with | some (m, g) => _ | none => _) _
   split
   · rename_i m0 g hm0
     intro o1
     show RdM.All _ (match holU o1.c with | some (k, q0, l0, q1, l1, q2, l2, q3, l3) => _ | none => _) _
     split
     · rename_i k q0 l0 q1 l1 q2 l2 q3 l3 hm1
       intro o2
       show RdM.All _ (match intsFrom .i64 o2.c with | some (m, g) => _ | none => _) _
       split
       · rename_i m2 g0 hm2
         intro o3
         show RdM.All _ (match intsFrom .i64 o3.c with | some (m, g) => _ | none => _) _
         split
         · rename_i m3 g1 hm3
           intro o4
           show RdM.All _ (match intsFrom .i64 o4.c with | some (m, g) => _ | none => _) _
           split
           · rename_i m4 g2 hm4
             intro o5
             show RdM.All _ (match intsFrom .i64 o5.c with | some (m, g) => _ | none => _) _
             split
             · rename_i m5 g3 hm5
               intro o6
               show RdM.All _ (match intsFrom .i64 o6.c with | some (m, g) => _ | none => _) _
               split
               · rename_i m6 gl hm6
                 intro ho
                 replace ho : k = k1 ∧ m0 = 2 * len ∧ m2 = 2 * l0 ∧ m3 = 2 * l1 ∧ m4 = 2 * l2 ∧ m5 = 2 * l3 ∧ m6 = 2 * ll ∧ shOk len k l0 l1 l2 l3 g g0 g1 g2 g3 ∧ (ll ≤ 1000000 ∧ (ppBig ll false = true → ppOk (fI gl) ll)) ∧ (FL2 (fI gl) (2 * ll) ∧ W22 (rX0 g len true) ∧ W22 (rX1 g len true) ∧ W22 (rX2 g len true) ∧ W22 (rX3 g len true)) ∧ mt4 (rX0 g len true) (rX1 g len true) (rX2 g len true) (rX3 g len true) (rX0 gl ll false) (rX1 gl ll false) (rX2 gl ll false) (rX3 gl ll false) = false := ho
                 obtain ⟨heq0, hsz0, hsz2, hsz3, hsz4, hsz5, hsz6, ho⟩ := ho
                 subst heq0
                 subst hsz0
                 subst hsz2
                 subst hsz3
                 subst hsz4
                 subst hsz5
                 subst hsz6
                 refine ⟨?_, _, _, (vc_asLPF len k l0 l1 l2 l3 q0 q1 q2 q3 ll g g0 g1 g2 g3 gl).mpr ?_⟩
                 · refine okFlag_mk rfl ⟨?_, ⟨trivial, (contR_ints hm0).1, ⟨trivial, holU_spec hm1 sameN_self sameN_self sameN_self sameN_self, ⟨trivial, (contR_ints hm2).1, ⟨trivial, (contR_ints hm3).1, ⟨trivial, (contR_ints hm4).1, ⟨trivial, (contR_ints hm5).1, ⟨trivial, (contR_ints hm6).1, trivial⟩⟩⟩⟩⟩⟩⟩⟩
                   simp [eqvRL, eqvR, kEq_self, sgSig, fsts, nth, sameN_self]
                 · obtain ⟨h1, h2, h3, h4⟩ := ho
                   simp only [true_and, and_true, eq_self, Bool.false_eq_true, Bool.true_eq_false, false_implies, true_implies]
                   exact ⟨h2, h1, ⟨h2.1, h3⟩, h4, rfl⟩
               · trivial
             · trivial
           · trivial
         · trivial
       · trivial
     · trivial
   · trivial
 · trivial
end Go.Proofs.Tryz.Sx
