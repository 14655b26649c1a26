/- Parts of a proof, in order: what each says stands at its head. No conditions. -/
import Derived.Test.YtfhkmkhcofodmaaGreatTM7
namespace Go.Proofs.Tryz.Sx
open Go Go.Sx Go.Proofs Go.Fl Go.Geo
set_option maxRecDepth 100000
set_option maxHeartbeats 4000000
noncomputable def rP (g : Nat → Nat) (n : Nat) (cl : Bool) (x y z w px py : Nat) (al : Bool) : Bool := (rcp g n (nsg cl n (wz g)) x y z w px py al).1
noncomputable def vPf (g : Nat → Int) (n : Nat) (x y : Int) : Bool := (rcp (fI g) n (nsI g n true) (rX0 g n true) (rX1 g n true) (rX2 g n true) (rX3 g n true) (ofI .f64 x) (ofI .f64 y) false).1
noncomputable def pcq1C : List SV → RdM
 | [.ptr P 0, .agg [.flt .f64 px, .flt .f64 py]] => .read P fun o0 => (match po1 o0.c with
   | some (s, h) => .read s fun o1 => (match serOf o1.c with
   | some (cl, cw, cv, k, x, y, z, w, q, n) => .read q fun o2 => (match fltsFrom .f64 o2.c with
   | some (m2, g) => .read h fun o3 => (match ho1 o3.c with
   | some e0 => .read e0 fun o4 => (match serOf o4.c with
   | some (cl0, cw0, cv0, k0, x0, y0, z0, w0, q0, n0) => .read q0 fun o5 => (match fltsFrom .f64 o5.c with
   | some (m5, g0) => .ret ⟨[.ptr 0 0, .agg [.flt .f64 px, .flt .f64 py]], [(0, ⟨false, 137, .cells [.ifc 157 (.ptr 1 0), .slcc 3 1], 0⟩), (1, ⟨false, 150, serC cl cw cv k x y z w 2 n, 0⟩), (2, ⟨false, 100, .flts .f64 m2 g, 0⟩), (3, ⟨false, 106, .cells [.ifc 157 (.ptr 4 0)], 0⟩), (4, ⟨false, 150, serC cl0 cw0 cv0 k0 x0 y0 z0 w0 5 n0, 0⟩), (5, ⟨false, 100, .flts .f64 m5 g0, 0⟩)], .bool (rP g n cl x y z w px py true && !(rP g0 n0 cl0 x0 y0 z0 w0 px py false)), [], [], some (m2 = 2 * n ∧ m5 = 2 * n0 ∧ ((n ≤ 1000000 ∧ SmF g (2 * n)) ∧ (W1 x ∧ W1 y ∧ W1 z ∧ W1 w)) ∧ ((n0 ≤ 1000000 ∧ SmF g0 (2 * n0)) ∧ (W1 x0 ∧ W1 y0 ∧ W1 z0 ∧ W1 w0)) ∧ W1 px ∧ W1 py)⟩
   | none => .fail)
   | none => .fail)
   | none => .fail)
   | none => .fail)
   | none => .fail)
   | none => .fail)
 | _ => .fail
theorem vc_pcq1 (cl cw cv : Bool) (k : Int) (x y z w : Nat) (_ : Nm) (n : Nat) (_ _ : Nm) (_ : Nm) (cl0 cw0 cv0 : Bool) (k0 : Int) (x0 y0 z0 w0 : Nat) (_ : Nm) (n0 : Nat) (px py : Nat)  (g : Nat → Nat) (g0 : Nat → Nat) : runA Gpcq 6 [(7, .unr [⟨Nat, fun _ => ⟨40, [(3, .ptr 6 0), (5, .tt), (28, .slcc 3 1), (29, .int .i64 1), (30, .int .i64 0)], [(3, ⟨false, 106, .cells [.ifc 157 (.ptr 4 0)], 0⟩), (4, ⟨false, 150, serC cl0 cw0 cv0 k0 x0 y0 z0 w0 5 n0, 0⟩), (5, ⟨false, 100, .flts .f64 (2 * n0) g0, 0⟩), (6, ⟨true, 100, .cells [.flt .f64 px, .flt .f64 py], 0⟩)], 7⟩, fun _ => rP g n cl x y z w px py true = true, fun _ => 0⟩, ⟨Nat, fun _ => ⟨40, [(3, .ptr 6 0), (5, .tt), (28, .slcc 3 1), (29, .int .i64 1), (30, .int .i64 1)], [(3, ⟨false, 106, .cells [.ifc 157 (.ptr 4 0)], 0⟩), (4, ⟨false, 150, serC cl0 cw0 cv0 k0 x0 y0 z0 w0 5 n0, 0⟩), (5, ⟨false, 100, .flts .f64 (2 * n0) g0, 0⟩), (6, ⟨true, 100, .cells [.flt .f64 px, .flt .f64 py], 0⟩)], 7⟩, fun _ => rP g n cl x y z w px py true = true ∧ rP g0 n0 cl0 x0 y0 z0 w0 px py false = false, fun _ => 0⟩])] [] (codeOf Tryz.f171) (init Tryz.f171.ntmps [.ptr 0 0, .agg [.flt .f64 px, .flt .f64 py]] [(0, ⟨false, 137, .cells [.ifc 157 (.ptr 1 0), .slcc 3 1], 0⟩), (1, ⟨false, 150, serC cl cw cv k x y z w 2 n, 0⟩), (2, ⟨false, 100, .flts .f64 (2 * n) g, 0⟩), (3, ⟨false, 106, .cells [.ifc 157 (.ptr 4 0)], 0⟩), (4, ⟨false, 150, serC cl0 cw0 cv0 k0 x0 y0 z0 w0 5 n0, 0⟩), (5, ⟨false, 100, .flts .f64 (2 * n0) g0, 0⟩)] 6) (endK Gpcq.E.T Tryz.f171.results.toList fun S v => postP 6 ⟨[.ptr 0 0, .agg [.flt .f64 px, .flt .f64 py]], [(0, ⟨false, 137, .cells [.ifc 157 (.ptr 1 0), .slcc 3 1], 0⟩), (1, ⟨false, 150, serC cl cw cv k x y z w 2 n, 0⟩), (2, ⟨false, 100, .flts .f64 (2 * n) g, 0⟩), (3, ⟨false, 106, .cells [.ifc 157 (.ptr 4 0)], 0⟩), (4, ⟨false, 150, serC cl0 cw0 cv0 k0 x0 y0 z0 w0 5 n0, 0⟩), (5, ⟨false, 100, .flts .f64 (2 * n0) g0, 0⟩)], .bool (rP g n cl x y z w px py true && !(rP g0 n0 cl0 x0 y0 z0 w0 px py false)), [], [], some (2 * n = 2 * n ∧ 2 * n0 = 2 * n0 ∧ ((n ≤ 1000000 ∧ SmF g (2 * n)) ∧ (W1 x ∧ W1 y ∧ W1 z ∧ W1 w)) ∧ ((n0 ≤ 1000000 ∧ SmF g0 (2 * n0)) ∧ (W1 x0 ∧ W1 y0 ∧ W1 z0 ∧ W1 w0)) ∧ W1 px ∧ W1 py)⟩ S v) = (
(2 * n = 2 * n ∧ n ≤ 1000000 ∧ SmF g (2 * n) ∧ W1 px ∧ W1 py) ∧ true = true ∧ ((!(rcp g n (nsg cl n
(wz g)) x y z w px py true).1) = true → (rP g n cl x y z w px py true && !rP g0 n0 cl0 x0 y0 z0 w0 px py false) = false ∧ True) ∧ ((!(rcp g n (nsg cl n
(wz g)) x y z w px py true).1) = false → (∃ (_ : Nat), rP g n cl x y z w px py true = true ∧ ((True ∧ 0 = 0) ∧ True ∧ (True ∧ 1 = 1) ∧ (1 : Int) = 1 ∧ (0 : Int) = 0 ∧
 True) ∧ True ∧ ((True ∧ 0 = 0) ∧ True) ∧ True ∧ (cl0 = cl0 ∧ cw0 = cw0 ∧ cv0 = cv0 ∧ k0 = k0 ∧ True ∧ x0 = x0 ∧ y0 = y0 ∧ z0 = z0 ∧ w0 = w0 ∧ (True ∧ n0 = n0) ∧ True) ∧ True ∧ (2 * n0 ≤ 2 * n0 ∧ ∀ (i : Nat), i < 2 * n0 → g0 i = g0 i) ∧ True ∧ (100 = 100 ∧ 0 = 0 ∧ px = px ∧ py = py ∧ True) ∧ True) ∧ (∀ (_ : Nat), rP g n cl x y z w px py true = true → (true = true → (((0 : Int) ≤ 0 ∧ (0 : Int) < (1 :
 Int)) ∧ True) ∧ (2 * n0 = 2 * n0 ∧ n0 ≤ 1000000 ∧ SmF g0 (2 * n0) ∧ W1 px ∧ W1 py) ∧ ((rcp g0 n0 (nsg cl0 n0
(wz g0)) x0 y0 z0 w0 px py false).1 = true → (rP g n cl x y z w px py true && !rP g0 n0 cl0 x0 y0 z0 w0 px py false) = false ∧ True) ∧ ((rcp g0 n0 (nsg
 cl0 n0 (wz g0)) x0 y0 z0 w0 px py false).1 = false → ∃ (_ : Nat), (rP g n cl x y z w px py true = true ∧ rP g0 n0 cl0 x0 y0 z0 w0 px py false = false) ∧ ((True ∧ 0 = 0) ∧ True ∧
(True ∧ 1 = 1) ∧ (1 : Int) = 1 ∧ (1 : Int) = 1 ∧ True) ∧ True ∧ ((True ∧ 0 = 0) ∧ True) ∧ True ∧ (cl0 = cl0 ∧ cw0 = cw0 ∧ cv0 = cv0 ∧ k0 = k0 ∧ True ∧ x0 = x0 ∧ y0 = y0 ∧ z0 = z0 ∧ w0 = w0 ∧ (True ∧ n0
= n0) ∧ True) ∧ True ∧ (2 * n0 ≤ 2 * n0 ∧ ∀ (i : Nat), i < 2 * n0 → g0 i = g0 i) ∧ True ∧ (100 = 100 ∧ 0 = 0 ∧ px = px ∧ py = py ∧ True) ∧ True)) ∧ (true = false → (rP g n cl x
 y z w px py true && !rP g0 n0 cl0 x0 y0 z0 w0 px py false) = true ∧ True)) ∧ (∀ (_ : Nat), rP g n cl x y z w px py true = true ∧ rP g0 n0 cl0 x0 y0 z0 w0 px py false = false → (false = true → (((0
: Int) ≤ 1 ∧ (1 : Int) < 1) ∧ True) ∧ False) ∧ (false = false → (rP g n cl x y z w px py true && !rP g0 n0 cl0 x0 y0 z0 w0 px py false) = true ∧ True)) ∧ True)) := by kernel_rfl
theorem pcq1 : ConOk Tryz.prog 171 (conR pcq1C) := by
 refine con_of_vc gpcq Tryz.func171 rfl (by kernel_rfl) fun args => ?_
 unfold pcq1C
 split
 · rename_i P px py
   intro o0
   show RdM.All _ (match po1 o0.c with | some (s, h) => _ | none => _) _
   split
   · rename_i s h hm0
     intro o1
     show RdM.All _ (match serOf o1.c with | some (cl, cw, cv, k, x, y, z, w, q, n) => _ | none => _) _
     split
     · rename_i cl cw cv k x y z w q n hm1
       intro o2
       show RdM.All _ (match fltsFrom .f64 o2.c with | some (m, g) => _ | none => _) _
       split
       · rename_i m2 g hm2
         intro o3
         show RdM.All _ (match ho1 o3.c with | some e0 => _ | none => _) _
         split
         · rename_i e0 hm3
           intro o4
           show RdM.All _ (match serOf o4.c with | some (cl0, cw0, cv0, k0, x0, y0, z0, w0, q0, n0) => _ | none => _) _
           split
           · rename_i cl0 cw0 cv0 k0 x0 y0 z0 w0 q0 n0 hm4
             intro o5
             show RdM.All _ (match fltsFrom .f64 o5.c with | some (m, g) => _ | none => _) _
             split
             · rename_i m5 g0 hm5
               intro ho
               replace ho : m2 = 2 * n ∧ m5 = 2 * n0 ∧ ((n ≤ 1000000 ∧ SmF g (2 * n)) ∧ (W1 x ∧ W1 y ∧ W1 z ∧ W1 w)) ∧ ((n0 ≤ 1000000 ∧ SmF g0 (2 * n0)) ∧ (W1 x0 ∧ W1 y0 ∧ W1 z0 ∧ W1 w0)) ∧ W1 px ∧ W1 py := ho
               obtain ⟨hsz2, hsz5, ho⟩ := ho
               subst hsz2
               subst hsz5
               refine ⟨?_, _, _, (vc_pcq1 cl cw cv k x y z w q n s h e0 cl0 cw0 cv0 k0 x0 y0 z0 w0 q0 n0 px py g g0).mpr ?_⟩
               · refine okFlag_mk rfl ⟨?_, ⟨trivial, po1_spec hm0 (by simp [sgSig, fsts, nth, sameN_self]) (by simp [sgSig, fsts, nth, sameN_self]), ⟨trivial, serOf_spec hm1 (by simp [sgSig, fsts, nth, sameN_self]), ⟨trivial, (contR_flts hm2).1, ⟨trivial, ho1_spec hm3 (by simp [sgSig, fsts, nth, sameN_self]), ⟨trivial, serOf_spec hm4 (by simp [sgSig, fsts, nth, sameN_self]), ⟨trivial, (contR_flts hm5).1, trivial⟩⟩⟩⟩⟩⟩⟩
                 simp [eqvRL, eqvR, fkEq_self, sgSig, fsts, nth, sameN_self]
               · simp only [show ∀ g n cl x y z w px py al, (rcp g n (nsg cl n (wz g)) x y z w px py al).1 = rP g n cl x y z w px py al from fun _ _ _ _ _ _ _ _ _ _ => rfl]
                 generalize rP g n cl x y z w px py true = r
                 generalize rP g0 n0 cl0 x0 y0 z0 w0 px py false = r0
                 cases r <;> cases r0 <;> simp [ho]
             · trivial
           · trivial
         · trivial
       · trivial
     · trivial
   · trivial
 · trivial
noncomputable def Gpiq1 : Ctx := ⟨⟨tys, []⟩, [(171, conR pcq1C)]⟩
theorem gpiq1 : CtxOk Tryz.prog Gpiq1 := ⟨⟨tysOk, FlatsOk.nil⟩, GamOk.cons pcq1 GamOk.nil, by kernel_rfl⟩
noncomputable def piq1C : List SV → RdM
 | [.ptr P 0, .agg [.flt .f64 px, .flt .f64 py]] => .read P fun o0 => (match po1 o0.c with
   | some (s, h) => .read s fun o1 => (match serOf o1.c with
   | some (cl, cw, cv, k, x, y, z, w, q, n) => .read q fun o2 => (match fltsFrom .f64 o2.c with
   | some (m2, g) => .read h fun o3 => (match ho1 o3.c with
   | some e0 => .read e0 fun o4 => (match serOf o4.c with
   | some (cl0, cw0, cv0, k0, x0, y0, z0, w0, q0, n0) => .read q0 fun o5 => (match fltsFrom .f64 o5.c with
   | some (m5, g0) => .ret ⟨[.ptr 0 0, .agg [.flt .f64 px, .flt .f64 py]], [(0, ⟨false, 137, .cells [.ifc 157 (.ptr 1 0), .slcc 3 1], 0⟩), (1, ⟨false, 150, serC cl cw cv k x y z w 2 n, 0⟩), (2, ⟨false, 100, .flts .f64 m2 g, 0⟩), (3, ⟨false, 106, .cells [.ifc 157 (.ptr 4 0)], 0⟩), (4, ⟨false, 150, serC cl0 cw0 cv0 k0 x0 y0 z0 w0 5 n0, 0⟩), (5, ⟨false, 100, .flts .f64 m5 g0, 0⟩)], .bool (rP g n cl x y z w px py true && !(rP g0 n0 cl0 x0 y0 z0 w0 px py false)), [], [], some (m2 = 2 * n ∧ m5 = 2 * n0 ∧ ((n ≤ 1000000 ∧ SmF g (2 * n)) ∧ (W1 x ∧ W1 y ∧ W1 z ∧ W1 w)) ∧ ((n0 ≤ 1000000 ∧ SmF g0 (2 * n0)) ∧ (W1 x0 ∧ W1 y0 ∧ W1 z0 ∧ W1 w0)) ∧ W1 px ∧ W1 py)⟩
   | none => .fail)
   | none => .fail)
   | none => .fail)
   | none => .fail)
   | none => .fail)
   | none => .fail)
 | _ => .fail
theorem vc_piq1 (cl cw cv : Bool) (k : Int) (x y z w : Nat) (_ : Nm) (n : Nat) (_ _ : Nm) (_ : Nm) (cl0 cw0 cv0 : Bool) (k0 : Int) (x0 y0 z0 w0 : Nat) (_ : Nm) (n0 : Nat) (px py : Nat)  (g : Nat → Nat) (g0 : Nat → Nat) : runA Gpiq1 6 [] [] (codeOf Tryz.f168) (init Tryz.f168.ntmps [.ptr 0 0, .agg [.flt .f64 px, .flt .f64 py]] [(0, ⟨false, 137, .cells [.ifc 157 (.ptr 1 0), .slcc 3 1], 0⟩), (1, ⟨false, 150, serC cl cw cv k x y z w 2 n, 0⟩), (2, ⟨false, 100, .flts .f64 (2 * n) g, 0⟩), (3, ⟨false, 106, .cells [.ifc 157 (.ptr 4 0)], 0⟩), (4, ⟨false, 150, serC cl0 cw0 cv0 k0 x0 y0 z0 w0 5 n0, 0⟩), (5, ⟨false, 100, .flts .f64 (2 * n0) g0, 0⟩)] 6) (endK Gpiq1.E.T Tryz.f168.results.toList fun S v => postP 6 ⟨[.ptr 0 0, .agg [.flt .f64 px, .flt .f64 py]], [(0, ⟨false, 137, .cells [.ifc 157 (.ptr 1 0), .slcc 3 1], 0⟩), (1, ⟨false, 150, serC cl cw cv k x y z w 2 n, 0⟩), (2, ⟨false, 100, .flts .f64 (2 * n) g, 0⟩), (3, ⟨false, 106, .cells [.ifc 157 (.ptr 4 0)], 0⟩), (4, ⟨false, 150, serC cl0 cw0 cv0 k0 x0 y0 z0 w0 5 n0, 0⟩), (5, ⟨false, 100, .flts .f64 (2 * n0) g0, 0⟩)], .bool (rP g n cl x y z w px py true && !(rP g0 n0 cl0 x0 y0 z0 w0 px py false)), [], [], some (2 * n = 2 * n ∧ 2 * n0 = 2 * n0 ∧ ((n ≤ 1000000 ∧ SmF g (2 * n)) ∧ (W1 x ∧ W1 y ∧ W1 z ∧ W1 w)) ∧ ((n0 ≤ 1000000 ∧ SmF g0 (2 * n0)) ∧ (W1 x0 ∧ W1 y0 ∧ W1 z0 ∧ W1 w0)) ∧ W1 px ∧ W1 py)⟩ S v) = (
(2 * n = 2 * n ∧ 2 * n0 = 2 * n0 ∧ ((n ≤ 1000000 ∧ SmF g (2 * n)) ∧ W1 x ∧ W1 y ∧ W1 z ∧ W1 w) ∧ ((n0 ≤ 1000000 ∧ SmF g0 (2 * n0)) ∧ W1 x0 ∧ W1 y0 ∧ W1 z0 ∧ W1 w0) ∧ W1 px ∧ W1 py) ∧ (rP g n cl x y z w
 px py true && !rP g0 n0 cl0 x0 y0 z0 w0 px py false) = (rP g n cl x y z w px py true && !rP g0 n0 cl0 x0 y0 z0 w0 px py false) ∧ True) := by kernel_rfl
theorem piq1 : ConOk Tryz.prog 168 (conR piq1C) := by
 refine con_of_vc gpiq1 Tryz.func168 rfl (by kernel_rfl) fun args => ?_
 unfold piq1C
 split
 · rename_i P px py
   intro o0
   show RdM.All _ (match po1 o0.c with | some (s, h) => _ | none => _) _
   split
   · rename_i s h hm0
     intro o1
     show RdM.All _ (match serOf o1.c with | some (cl, cw, cv, k, x, y, z, w, q, n) => _ | none => _) _
     split
     · rename_i cl cw cv k x y z w q n hm1
       intro o2
       show RdM.All _ (match fltsFrom .f64 o2.c with | some (m, g) => _ | none => _) _
       split
       · rename_i m2 g hm2
         intro o3
         show RdM.All _ (match ho1 o3.c with | some e0 => _ | none => _) _
         split
         · rename_i e0 hm3
           intro o4
           show RdM.All _ (match serOf o4.c with | some (cl0, cw0, cv0, k0, x0, y0, z0, w0, q0, n0) => _ | none => _) _
           split
           · rename_i cl0 cw0 cv0 k0 x0 y0 z0 w0 q0 n0 hm4
             intro o5
             show RdM.All _ (match fltsFrom .f64 o5.c with | some (m, g) => _ | none => _) _
             split
             · rename_i m5 g0 hm5
               intro ho
               replace ho : m2 = 2 * n ∧ m5 = 2 * n0 ∧ ((n ≤ 1000000 ∧ SmF g (2 * n)) ∧ (W1 x ∧ W1 y ∧ W1 z ∧ W1 w)) ∧ ((n0 ≤ 1000000 ∧ SmF g0 (2 * n0)) ∧ (W1 x0 ∧ W1 y0 ∧ W1 z0 ∧ W1 w0)) ∧ W1 px ∧ W1 py := ho
               obtain ⟨hsz2, hsz5, ho⟩ := ho
               subst hsz2
               subst hsz5
               refine ⟨?_, _, _, (vc_piq1 cl cw cv k x y z w q n s h e0 cl0 cw0 cv0 k0 x0 y0 z0 w0 q0 n0 px py g g0).mpr ?_⟩
               · refine okFlag_mk rfl ⟨?_, ⟨trivial, po1_spec hm0 (by simp [sgSig, fsts, nth, sameN_self]) (by simp [sgSig, fsts, nth, sameN_self]), ⟨trivial, serOf_spec hm1 (by simp [sgSig, fsts, nth, sameN_self]), ⟨trivial, (contR_flts hm2).1, ⟨trivial, ho1_spec hm3 (by simp [sgSig, fsts, nth, sameN_self]), ⟨trivial, serOf_spec hm4 (by simp [sgSig, fsts, nth, sameN_self]), ⟨trivial, (contR_flts hm5).1, trivial⟩⟩⟩⟩⟩⟩⟩
                 simp [eqvRL, eqvR, fkEq_self, sgSig, fsts, nth, sameN_self]
               · generalize rP g n cl x y z w px py true = r
                 generalize rP g0 n0 cl0 x0 y0 z0 w0 px py false = r0
                 cases r <;> cases r0 <;> simp [ho]
             · trivial
           · trivial
         · trivial
       · trivial
     · trivial
   · trivial
 · trivial
noncomputable def G39T1 : Ctx := ⟨⟨tys, []⟩, [(64, conR optsC), (63, conR shP1C), (72, conR cornerC), (75, pureCon ptF), (171, conR pcq1C), (168, conR piq1C)]⟩
theorem g39T1 : CtxOk Tryz.prog G39T1 := ⟨⟨tysOk, FlatsOk.nil⟩, GamOk.cons opts (GamOk.cons shP1 (GamOk.cons corner (GamOk.cons (.pure pt) (GamOk.cons pcq1 (GamOk.cons piq1 GamOk.nil))))), by kernel_rfl⟩
noncomputable def asPt1C : List SV → RdM
 | [.agg [.int .i64 3, .slcc n len, .slcc h 1], .agg [.int .i64 0, .slcc m 1, .nils], .int .i64 0, .int .i64 0] => .read n fun o0 => (match intsFrom .i64 o0.c with
   | some (m0, g) => .read h fun o1 => (match hol1 o1.c with
   | some (q0, l0) => .read q0 fun o2 => (match intsFrom .i64 o2.c with
   | some (m2, g0) => .read m fun o3 => (match intsFrom .i64 o3.c with
   | some (m3, gl) => .ret ⟨[.agg [.int .i64 3, .slcc 0 len, .slcc 1 1], .agg [.int .i64 0, .slcc 3 1, .nils], .int .i64 0, .int .i64 0], [(0, ⟨false, 23, .ints .i64 m0 g, 0⟩), (1, ⟨false, 25, .cells [.slcc 2 l0], 0⟩), (2, ⟨false, 23, .ints .i64 m2 g0, 0⟩), (3, ⟨false, 23, .ints .i64 m3 gl, 0⟩)], .tup [.bool (vPt g len (gl 0) (gl 1) && !(vPf g0 l0 (gl 0) (gl 1))), .bool (vPt g len (gl 0) (gl 1) && !(vPf g0 l0 (gl 0) (gl 1)))], [], [], some (m0 = 2 * len ∧ m2 = 2 * l0 ∧ m3 = 2 ∧ PO g len ∧ PO g0 l0 ∧ small (gl 0) ∧ small (gl 1))⟩
   | none => .fail)
   | none => .fail)
   | none => .fail)
   | none => .fail)
 | _ => .fail
theorem vc_asPt1 (len : Nat) (l0 : Nat) (_ : Nm)  (g : Nat → Int) (g0 : Nat → Int) (gl : Nat → Int) : runA G39T1 4 [] [] (codeOf Tryz.f39) (init Tryz.f39.ntmps [.agg [.int .i64 3, .slcc 0 len, .slcc 1 1], .agg [.int .i64 0, .slcc 3 1, .nils], .int .i64 0, .int .i64 0] [(0, ⟨false, 23, .ints .i64 (2 * len) g, 0⟩), (1, ⟨false, 25, .cells [.slcc 2 l0], 0⟩), (2, ⟨false, 23, .ints .i64 (2 * l0) g0, 0⟩), (3, ⟨false, 23, .ints .i64 (2) gl, 0⟩)] 4) (endK G39T1.E.T Tryz.f39.results.toList fun S v => postP 4 ⟨[.agg [.int .i64 3, .slcc 0 len, .slcc 1 1], .agg [.int .i64 0, .slcc 3 1, .nils], .int .i64 0, .int .i64 0], [(0, ⟨false, 23, .ints .i64 (2 * len) g, 0⟩), (1, ⟨false, 25, .cells [.slcc 2 l0], 0⟩), (2, ⟨false, 23, .ints .i64 (2 * l0) g0, 0⟩), (3, ⟨false, 23, .ints .i64 (2) gl, 0⟩)], .tup [.bool (vPt g len (gl 0) (gl 1) && !(vPf g0 l0 (gl 0) (gl 1))), .bool (vPt g len (gl 0) (gl 1) && !(vPf g0 l0 (gl 0) (gl 1)))], [], [], some (2 * len = 2 * len ∧ 2 * l0 = 2 * l0 ∧ 2 = 2 ∧ PO g len ∧ PO g0 l0 ∧ small (gl 0) ∧ small (gl 1))⟩ S v) = (
 True ∧ (2 * len = 2 * len ∧ 2 * l0 = 2 * l0 ∧ (0 : Int) = 0 ∧ (len ≤ 1000000 ∧ (ppBig len true = true → ppOk (fI g) len)) ∧ l0 ≤ 1000000 ∧
(ppBig l0 true = true → ppOk (fI g0) l0)) ∧ (false = true → False) ∧ (false = false → (false = true → False) ∧ (false = false → (false = true → False) ∧ (false = false → (2 = 2 ∧
(0 : Int) ≤ 0) ∧ (2 * len = 2 * len ∧ 2 * l0 = 2 * l0 ∧ ((len ≤ 1000000 ∧ SmF (fI g) (2 * len)) ∧ W1 (pick
(ppBig len true) (rlo (fI g) 0 len)) ∧ W1 (pick (ppBig len true) (rlo (fI g) 1 len)) ∧
 W1 (pick (ppBig len true) (rhi (fI g) 0 len)) ∧ W1 (pick (ppBig len true) (rhi
(fI g) 1 len))) ∧ ((l0 ≤ 1000000 ∧ SmF (fI g0) (2 * l0)) ∧ W1 (pick (ppBig l0 true) (rlo
(fI g0) 0 l0)) ∧ W1 (pick (ppBig l0 true) (rlo (fI g0) 1 l0)) ∧ W1 (pick
(ppBig l0 true) (rhi (fI g0) 0 l0)) ∧ W1 (pick (ppBig l0 true) (rhi (fI g0) 1 l0))) ∧
 W1 (ofI .f64 (crn gl 1 (0 : Int) 0)) ∧ W1 (ofI .f64 (crn gl 1 (0 : Int) 1))) ∧ (2 * len = 2 * len ∧ 2 * l0 =
2 * l0 ∧ ((len ≤ 1000000 ∧ SmF (fI g) (2 * len)) ∧ W1 (pick (ppBig len true) (rlo (fI g) 0
 len)) ∧ W1 (pick (ppBig len true) (rlo (fI g) 1 len)) ∧ W1 (pick (ppBig len true)
(rhi (fI g) 0 len)) ∧ W1 (pick (ppBig len true) (rhi (fI g) 1 len))) ∧ ((l0 ≤ 1000000 ∧
 SmF (fI g0) (2 * l0)) ∧ W1 (pick (ppBig l0 true) (rlo (fI g0) 0 l0)) ∧ W1
(pick (ppBig l0 true) (rlo (fI g0) 1 l0)) ∧ W1 (pick (ppBig l0 true) (rhi (fI
 g0) 0 l0)) ∧ W1 (pick (ppBig l0 true) (rhi (fI g0) 1 l0))) ∧ W1 (ofI .f64 (crn gl 1 (0 : Int)
0)) ∧ W1 (ofI .f64 (crn gl 1 (0 : Int) 1))) ∧ true = true ∧ ((rP (fI g) len true (pick (ppBig len true)
(rlo (fI g) 0 len)) (pick (ppBig len true) (rlo (fI g) 1 len)) (pick (ppBig len true)
(rhi (fI g) 0 len)) (pick (ppBig len true) (rhi (fI g) 1 len)) (ofI .f64 (crn gl 1 (0 : Int)
0)) (ofI .f64 (crn gl 1 (0 : Int) 1)) true && !rP (fI g0) l0 true (pick (ppBig l0 true) (rlo
(fI g0) 0 l0)) (pick (ppBig l0 true) (rlo (fI g0) 1 l0)) (pick (ppBig l0 true) (rhi
(fI g0) 0 l0)) (pick (ppBig l0 true) (rhi (fI g0) 1 l0)) (ofI .f64 (crn gl 1 (0 : Int) 0)) (ofI
.f64 (crn gl 1 (0 : Int) 1)) false) = (vPt g len (gl 0) (gl 1) && !vPf g0 l0 (gl 0) (gl 1)) ∧ (rP (fI g) len
 true (pick (ppBig len true) (rlo (fI g) 0 len)) (pick (ppBig len true) (rlo (fI g) 1 len))
(pick (ppBig len true) (rhi (fI g) 0 len)) (pick (ppBig len true) (rhi (fI g) 1 len))
(ofI .f64 (crn gl 1 (0 : Int) 0)) (ofI .f64 (crn gl 1 (0 : Int) 1)) true && !rP (fI g0) l0 true (pick
(ppBig l0 true) (rlo (fI g0) 0 l0)) (pick (ppBig l0 true) (rlo (fI g0) 1 l0)) (pick
(ppBig l0 true) (rhi (fI g0) 0 l0)) (pick (ppBig l0 true) (rhi (fI g0) 1 l0)) (ofI .f64
(crn gl 1 (0 : Int) 0)) (ofI .f64 (crn gl 1 (0 : Int) 1)) false) = (vPt g len (gl 0) (gl 1) && !vPf g0 l0 (gl 0) (gl
1)) ∧ True) ∧ True)))) := by kernel_rfl
theorem asPt1 : ConOk Tryz.prog 39 (conR asPt1C) := by
 refine con_of_vc g39T1 Tryz.func39 rfl (by kernel_rfl) fun args => ?_
 unfold asPt1C
 split
 · rename_i n len h m
   intro o0
   show RdM.All _ (match intsFrom .i64 o0.c with | some (m, g) => _ | none => _) _
   split
   · rename_i m0 g hm0
     intro o1
     show RdM.All _ (match hol1 o1.c with | some (q0, l0) => _ | none => _) _
     split
     · rename_i q0 l0 hm1
       intro o2
       show RdM.All _ (match intsFrom .i64 o2.c with | some (m, g) => _ | none => _) _
       split
       · rename_i m2 g0 hm2
         intro o3
         show RdM.All _ (match intsFrom .i64 o3.c with | some (m, g) => _ | none => _) _
         split
         · rename_i m3 gl hm3
           intro ho
           replace ho : m0 = 2 * len ∧ m2 = 2 * l0 ∧ m3 = 2 ∧ PO g len ∧ PO g0 l0 ∧ small (gl 0) ∧ small (gl 1) := ho
           obtain ⟨hsz0, hsz2, hsz3, ho⟩ := ho
           subst hsz0
           subst hsz2
           subst hsz3
           refine ⟨?_, _, _, (vc_asPt1 len l0 q0 g g0 gl).mpr ?_⟩
           · refine okFlag_mk rfl ⟨?_, ⟨trivial, (contR_ints hm0).1, ⟨trivial, hol1_spec hm1 (by simp [sgSig, fsts, nth, sameN_self]), ⟨trivial, (contR_ints hm2).1, ⟨trivial, (contR_ints hm3).1, trivial⟩⟩⟩⟩⟩
             simp [eqvRL, eqvR, kEq_self, sgSig, fsts, nth, sameN_self]
           · obtain ⟨h1, a0, h2⟩ := ho
             have c0 : crn gl 1 0 0 = gl 0 := rfl
             have c1 : crn gl 1 0 1 = gl 1 := rfl
             simp only [true_and, and_true, eq_self, true_implies, c0, c1, Bool.false_eq_true, false_implies]
             exact ⟨⟨⟨h1.len, fun hb => h1.ppOk hb⟩, ⟨a0.len, fun hb => a0.ppOk hb⟩⟩, by decide, ⟨h1.ob, a0.ob, (w1_fI h2.1).1, (w1_fI h2.2).1⟩, ⟨h1.ob, a0.ob, (w1_fI h2.1).1, (w1_fI h2.2).1⟩, rfl, rfl⟩
         · trivial
       · trivial
     · trivial
   · trivial
 · trivial
def po2 : Cont → Option (Nm × Nm)
 | .cells [.ifc 157 (.ptr s 0), .slcc h 2] => some (s, h)
 | _ => none
theorem po2_spec {σ : Sig} {c : Cont} {p q h h' : Nm} (hc : po2 c = some (p, h)) (hs : sameN (σ q) p) (hh : sameN (σ h') h) : contR σ c (.cells [.ifc 157 (.ptr q 0), .slcc h' 2]) := by
 unfold po2 at hc
 split at hc
 · simp only [Option.some.injEq, Prod.mk.injEq] at hc
   obtain ⟨rfl, rfl⟩ := hc
   show eqvRL σ _ _
   simp [eqvRL, eqvR, hs, hh]
 · cases hc
def ho2 : Cont → Option (Nm × Nm)
 | .cells [.ifc 157 (.ptr e0 0), .ifc 157 (.ptr e1 0)] => some (e0, e1)
 | _ => none
theorem ho2_spec {σ : Sig} {c : Cont} {p0 q0 p1 q1 : Nm} (h : ho2 c = some (p0, p1)) (s0 : sameN (σ q0) p0) (s1 : sameN (σ q1) p1) : contR σ c (.cells [.ifc 157 (.ptr q0 0), .ifc 157 (.ptr q1 0)]) := by
 unfold ho2 at h
 split at h
 · simp only [Option.some.injEq, Prod.mk.injEq] at h
   obtain ⟨rfl, rfl⟩ := h
   show eqvRL σ _ _
   simp [eqvRL, eqvR, s0, s1]
 · cases h
noncomputable def pcq2C : List SV → RdM
 | [.ptr P 0, .agg [.flt .f64 px, .flt .f64 py]] => .read P fun o0 => (match po2 o0.c with
   | some (s, h) => .read s fun o1 => (match serOf o1.c with
   | some (cl, cw, cv, k, x, y, z, w, q, n) => .read q fun o2 => (match fltsFrom .f64 o2.c with
   | some (m2, g) => .read h fun o3 => (match ho2 o3.c with
   | some (e0, e1) => .read e0 fun o4 => (match serOf o4.c with
   | some (cl0, cw0, cv0, k0, x0, y0, z0, w0, q0, n0) => .read q0 fun o5 => (match fltsFrom .f64 o5.c with
   | some (m5, g0) => .read e1 fun o6 => (match serOf o6.c with
   | some (cl1, cw1, cv1, k1, x1, y1, z1, w1, q1, n1) => .read q1 fun o7 => (match fltsFrom .f64 o7.c with
   | some (m7, g1) => .ret ⟨[.ptr 0 0, .agg [.flt .f64 px, .flt .f64 py]], [(0, ⟨false, 137, .cells [.ifc 157 (.ptr 1 0), .slcc 3 2], 0⟩), (1, ⟨false, 150, serC cl cw cv k x y z w 2 n, 0⟩), (2, ⟨false, 100, .flts .f64 m2 g, 0⟩), (3, ⟨false, 106, .cells [.ifc 157 (.ptr 4 0), .ifc 157 (.ptr 6 0)], 0⟩), (4, ⟨false, 150, serC cl0 cw0 cv0 k0 x0 y0 z0 w0 5 n0, 0⟩), (5, ⟨false, 100, .flts .f64 m5 g0, 0⟩), (6, ⟨false, 150, serC cl1 cw1 cv1 k1 x1 y1 z1 w1 7 n1, 0⟩), (7, ⟨false, 100, .flts .f64 m7 g1, 0⟩)], .bool (rP g n cl x y z w px py true && !(rP g0 n0 cl0 x0 y0 z0 w0 px py false) && !(rP g1 n1 cl1 x1 y1 z1 w1 px py false)), [], [], some (m2 = 2 * n ∧ m5 = 2 * n0 ∧ m7 = 2 * n1 ∧ ((n ≤ 1000000 ∧ SmF g (2 * n)) ∧ (W1 x ∧ W1 y ∧ W1 z ∧ W1 w)) ∧ ((n0 ≤ 1000000 ∧ SmF g0 (2 * n0)) ∧ (W1 x0 ∧ W1 y0 ∧ W1 z0 ∧ W1 w0)) ∧ ((n1 ≤ 1000000 ∧ SmF g1 (2 * n1)) ∧ (W1 x1 ∧ W1 y1 ∧ W1 z1 ∧ W1 w1)) ∧ W1 px ∧ W1 py)⟩
   | none => .fail)
   | none => .fail)
   | none => .fail)
   | none => .fail)
   | none => .fail)
   | none => .fail)
   | none => .fail)
   | none => .fail)
 | _ => .fail
theorem vc_pcq2 (cl cw cv : Bool) (k : Int) (x y z w : Nat) (_ : Nm) (n : Nat) (_ _ : Nm) (_ _ : Nm) (cl0 cw0 cv0 : Bool) (k0 : Int) (x0 y0 z0 w0 : Nat) (_ : Nm) (n0 : Nat) (cl1 cw1 cv1 : Bool) (k1 : Int) (x1 y1 z1 w1 : Nat) (_ : Nm) (n1 : Nat) (px py : Nat)  (g : Nat → Nat) (g0 : Nat → Nat) (g1 : Nat → Nat) : runA Gpcq 8 [(7, .unr [⟨Nat, fun _ => ⟨40, [(3, .ptr 8 0), (5, .tt), (28, .slcc 3 2), (29, .int .i64 2), (30, .int .i64 0)], [(3, ⟨false, 106, .cells [.ifc 157 (.ptr 4 0), .ifc 157 (.ptr 6 0)], 0⟩), (4, ⟨false, 150, serC cl0 cw0 cv0 k0 x0 y0 z0 w0 5 n0, 0⟩), (5, ⟨false, 100, .flts .f64 (2 * n0) g0, 0⟩), (6, ⟨false, 150, serC cl1 cw1 cv1 k1 x1 y1 z1 w1 7 n1, 0⟩), (7, ⟨false, 100, .flts .f64 (2 * n1) g1, 0⟩), (8, ⟨true, 100, .cells [.flt .f64 px, .flt .f64 py], 0⟩)], 9⟩, fun _ => rP g n cl x y z w px py true = true, fun _ => 0⟩, ⟨Nat, fun _ => ⟨40, [(3, .ptr 8 0), (5, .tt), (28, .slcc 3 2), (29, .int .i64 2), (30, .int .i64 1)], [(3, ⟨false, 106, .cells [.ifc 157 (.ptr 4 0), .ifc 157 (.ptr 6 0)], 0⟩), (4, ⟨false, 150, serC cl0 cw0 cv0 k0 x0 y0 z0 w0 5 n0, 0⟩), (5, ⟨false, 100, .flts .f64 (2 * n0) g0, 0⟩), (6, ⟨false, 150, serC cl1 cw1 cv1 k1 x1 y1 z1 w1 7 n1, 0⟩), (7, ⟨false, 100, .flts .f64 (2 * n1) g1, 0⟩), (8, ⟨true, 100, .cells [.flt .f64 px, .flt .f64 py], 0⟩)], 9⟩, fun _ => rP g n cl x y z w px py true = true ∧ rP g0 n0 cl0 x0 y0 z0 w0 px py false = false, fun _ => 0⟩, ⟨Nat, fun _ => ⟨40, [(3, .ptr 8 0), (5, .tt), (28, .slcc 3 2), (29, .int .i64 2), (30, .int .i64 2)], [(3, ⟨false, 106, .cells [.ifc 157 (.ptr 4 0), .ifc 157 (.ptr 6 0)], 0⟩), (4, ⟨false, 150, serC cl0 cw0 cv0 k0 x0 y0 z0 w0 5 n0, 0⟩), (5, ⟨false, 100, .flts .f64 (2 * n0) g0, 0⟩), (6, ⟨false, 150, serC cl1 cw1 cv1 k1 x1 y1 z1 w1 7 n1, 0⟩), (7, ⟨false, 100, .flts .f64 (2 * n1) g1, 0⟩), (8, ⟨true, 100, .cells [.flt .f64 px, .flt .f64 py], 0⟩)], 9⟩, fun _ => rP g n cl x y z w px py true = true ∧ rP g0 n0 cl0 x0 y0 z0 w0 px py false = false ∧ rP g1 n1 cl1 x1 y1 z1 w1 px py false = false, fun _ => 0⟩])] [] (codeOf Tryz.f171) (init Tryz.f171.ntmps [.ptr 0 0, .agg [.flt .f64 px, .flt .f64 py]] [(0, ⟨false, 137, .cells [.ifc 157 (.ptr 1 0), .slcc 3 2], 0⟩), (1, ⟨false, 150, serC cl cw cv k x y z w 2 n, 0⟩), (2, ⟨false, 100, .flts .f64 (2 * n) g, 0⟩), (3, ⟨false, 106, .cells [.ifc 157 (.ptr 4 0), .ifc 157 (.ptr 6 0)], 0⟩), (4, ⟨false, 150, serC cl0 cw0 cv0 k0 x0 y0 z0 w0 5 n0, 0⟩), (5, ⟨false, 100, .flts .f64 (2 * n0) g0, 0⟩), (6, ⟨false, 150, serC cl1 cw1 cv1 k1 x1 y1 z1 w1 7 n1, 0⟩), (7, ⟨false, 100, .flts .f64 (2 * n1) g1, 0⟩)] 8) (endK Gpcq.E.T Tryz.f171.results.toList fun S v => postP 8 ⟨[.ptr 0 0, .agg [.flt .f64 px, .flt .f64 py]], [(0, ⟨false, 137, .cells [.ifc 157 (.ptr 1 0), .slcc 3 2], 0⟩), (1, ⟨false, 150, serC cl cw cv k x y z w 2 n, 0⟩), (2, ⟨false, 100, .flts .f64 (2 * n) g, 0⟩), (3, ⟨false, 106, .cells [.ifc 157 (.ptr 4 0), .ifc 157 (.ptr 6 0)], 0⟩), (4, ⟨false, 150, serC cl0 cw0 cv0 k0 x0 y0 z0 w0 5 n0, 0⟩), (5, ⟨false, 100, .flts .f64 (2 * n0) g0, 0⟩), (6, ⟨false, 150, serC cl1 cw1 cv1 k1 x1 y1 z1 w1 7 n1, 0⟩), (7, ⟨false, 100, .flts .f64 (2 * n1) g1, 0⟩)], .bool (rP g n cl x y z w px py true && !(rP g0 n0 cl0 x0 y0 z0 w0 px py false) && !(rP g1 n1 cl1 x1 y1 z1 w1 px py false)), [], [], some (2 * n = 2 * n ∧ 2 * n0 = 2 * n0 ∧ 2 * n1 = 2 * n1 ∧ ((n ≤ 1000000 ∧ SmF g (2 * n)) ∧ (W1 x ∧ W1 y ∧ W1 z ∧ W1 w)) ∧ ((n0 ≤ 1000000 ∧ SmF g0 (2 * n0)) ∧ (W1 x0 ∧ W1 y0 ∧ W1 z0 ∧ W1 w0)) ∧ ((n1 ≤ 1000000 ∧ SmF g1 (2 * n1)) ∧ (W1 x1 ∧ W1 y1 ∧ W1 z1 ∧ W1 w1)) ∧ W1 px ∧ W1 py)⟩ S v) = (
(2 * n = 2 * n ∧ n ≤ 1000000 ∧ SmF g (2 * n) ∧ W1 px ∧ W1 py) ∧ true = true ∧ ((!(rcp g n (nsg cl n
(wz g)) x y z w px py true).1) = true → (rP g n cl x y z w px py true && !rP g0 n0 cl0 x0 y0 z0 w0 px py false && !rP g1 n1 cl1 x1 y1 z1 w1 px py false) = false ∧ True) ∧
((!(rcp g n (nsg cl n (wz g)) x y z w px py true).1) = false → (∃ (_ : Nat), rP g n cl x y z w px py true = true ∧ ((True ∧ 0 = 0) ∧ True ∧ (True ∧ 2 = 2) ∧ (2 : Int) = 2 ∧ (0 : Int) = 0 ∧ True) ∧ True ∧ ((True ∧ 0 = 0) ∧ (True ∧ 0 = 0) ∧ True) ∧ True ∧ (cl0 = cl0 ∧ cw0 = cw0 ∧ cv0 = cv0 ∧ k0 = k0 ∧ True ∧ x0 = x0 ∧ y0 = y0 ∧ z0 = z0 ∧
 w0 = w0 ∧ (True ∧ n0 = n0) ∧ True) ∧ True ∧ (2 * n0 ≤ 2 * n0 ∧ ∀ (i : Nat), i < 2 * n0 → g0 i = g0 i) ∧ True ∧ (cl1 = cl1 ∧ cw1 = cw1 ∧ cv1 = cv1 ∧ k1 = k1 ∧ True ∧ x1 = x1 ∧ y1 = y1 ∧ z1 = z1 ∧ w1 = w1 ∧ (True ∧ n1 = n1) ∧
 True) ∧ True ∧ (2 * n1 ≤ 2 * n1 ∧ ∀ (i : Nat), i < 2 * n1 → g1 i = g1 i) ∧ True ∧ (100 = 100 ∧ 0 = 0 ∧ px = px ∧ py = py ∧ True) ∧ True) ∧ (∀ (_ : Nat), rP g n cl x y z w px py
 true = true → (true = true → (((0 : Int) ≤ 0 ∧ (0 : Int) < 2) ∧ True) ∧ (2 * n0 = 2 * n0 ∧ n0 ≤ 1000000 ∧ SmF g0 (2 * n0) ∧ W1 px ∧ W1 py) ∧
((rcp g0 n0 (nsg cl0 n0 (wz g0)) x0 y0 z0 w0 px py false).1 = true → (rP g n cl x y z w px py true && !rP g0 n0 cl0 x0 y0 z0 w0 px py false &&
!rP g1 n1 cl1 x1 y1 z1 w1 px py false) = false ∧ True) ∧ ((rcp g0 n0 (nsg cl0 n0 (wz g0)) x0 y0 z0 w0 px py false).1 = false → ∃ (_ : Nat), (rP g n cl x
 y z w px py true = true ∧ rP g0 n0 cl0 x0 y0 z0 w0 px py false = false) ∧ ((True ∧ 0 = 0) ∧ True ∧ (True ∧ 2 = 2) ∧ (2 : Int) = 2 ∧ (1 : Int) = 1 ∧ True) ∧ True ∧ ((True ∧ 0 =
0) ∧ (True ∧ 0 = 0) ∧ True) ∧ True ∧ (cl0 = cl0 ∧ cw0 = cw0 ∧ cv0 = cv0 ∧ k0 = k0 ∧ True ∧ x0 = x0 ∧ y0 = y0 ∧ z0 = z0 ∧ w0 = w0 ∧ (True ∧ n0 = n0) ∧ True) ∧ True ∧ (2 * n0 ≤ 2 * n0 ∧ ∀ (i : Nat), i < 2
* n0 → g0 i = g0 i) ∧ True ∧ (cl1 = cl1 ∧ cw1 = cw1 ∧ cv1 = cv1 ∧ k1 = k1 ∧ True ∧ x1 = x1 ∧ y1 = y1 ∧ z1 = z1 ∧ w1 = w1 ∧ (True ∧ n1 = n1) ∧ True) ∧ True ∧ (2 * n1 ≤ 2 * n1 ∧ ∀ (i : Nat), i < 2 * n1 → g1 i = g1 i) ∧ True ∧
(100 = 100 ∧ 0 = 0 ∧ px = px ∧ py = py ∧ True) ∧ True)) ∧ (true = false → (rP g n cl x y z w px py true && !rP g0 n0 cl0 x0 y0 z0 w0 px py false && !rP g1 n1 cl1 x1
 y1 z1 w1 px py false) = true ∧ True)) ∧ (∀ (_ : Nat), rP g n cl x y z w px py true = true ∧ rP g0 n0 cl0 x0 y0 z0 w0 px py false = false → (true = true → (((0 : Int) ≤ 1 ∧ (1 : Int) < 2) ∧ True) ∧
(2 * n1 = 2 * n1 ∧ n1 ≤ 1000000 ∧ SmF g1 (2 * n1) ∧ W1 px ∧ W1 py) ∧ ((rcp g1 n1 (nsg cl1 n1 (wz g1))
 x1 y1 z1 w1 px py false).1 = true → (rP g n cl x y z w px py true && !rP g0 n0 cl0 x0 y0 z0 w0 px py false && !rP g1 n1 cl1 x1 y1 z1 w1 px py false) = false ∧ True) ∧ (Prod.fst
(rcp g1 n1 (nsg cl1 n1 (wz g1)) x1 y1 z1 w1 px py false) = false → ∃ (_ : Nat), (rP g n cl x y z w px py true = true ∧ rP g0 n0 cl0 x0 y0 z0 w0 px py false =
 false ∧ rP g1 n1 cl1 x1 y1 z1 w1 px py false = false) ∧ ((True ∧ 0 = 0) ∧ True ∧ (True ∧ 2 = 2) ∧ (2 : Int) = 2 ∧ (2 : Int) = 2 ∧ True) ∧ True ∧ ((True ∧ 0 = 0) ∧ (True
∧ 0 = 0) ∧ True) ∧ True ∧ (cl0 = cl0 ∧ cw0 = cw0 ∧ cv0 = cv0 ∧ k0 = k0 ∧ True ∧ x0 = x0 ∧ y0 = y0 ∧ z0 = z0 ∧ w0 = w0 ∧ (True ∧ n0 = n0) ∧ True) ∧ True ∧ (2 * n0 ≤ 2 * n0 ∧ ∀ (i : Nat), i < 2 * n0 → g0 i = g0
 i) ∧ True ∧ (cl1 = cl1 ∧ cw1 = cw1 ∧ cv1 = cv1 ∧ k1 = k1 ∧ True ∧ x1 = x1 ∧ y1 = y1 ∧ z1 = z1 ∧ w1 = w1 ∧ (True ∧ n1 = n1) ∧ True) ∧ True ∧ (2 * n1 ≤ 2 * n1 ∧ ∀ (i : Nat), i < 2 * n1 → g1 i = g1 i) ∧ True ∧ (100 = 100 ∧ 0 = 0 ∧ px = px ∧ py = py ∧ True) ∧ True)) ∧ (true = false → (rP g n cl x y z w px py true && !rP g0 n0 cl0 x0 y0 z0 w0 px py false && !rP g1 n1 cl1 x1 y1 z1 w1 px py
 false) = true ∧ True)) ∧ (∀ (_ : Nat), rP g n cl x y z w px py true = true ∧ rP g0 n0 cl0 x0 y0 z0 w0 px py false = false ∧ rP g1 n1 cl1 x1 y1 z1 w1 px py false = false → (false = true → (((0 :
 Int) ≤ (2 : Int) ∧ (2 : Int) < 2) ∧ True) ∧ False) ∧ (false = false → (rP g n cl x y z w px py true && !rP g0 n0 cl0 x0 y0 z0 w0 px py false && !rP g1 n1 cl1 x1 y1 z1 w1 px py false) =
 true ∧ True)) ∧ True)) := by kernel_rfl
theorem pcq2 : ConOk Tryz.prog 171 (conR pcq2C) := by
 refine con_of_vc gpcq Tryz.func171 rfl (by kernel_rfl) fun args => ?_
 unfold pcq2C
 split
 · rename_i P px py
   intro o0
   show RdM.All _ (match po2 o0.c with | some (s, h) => _ | none => _) _
   split
   · rename_i s h hm0
     intro o1
     show RdM.All _ (match serOf o1.c with | some (cl, cw, cv, k, x, y, z, w, q, n) => _ | none => _) _
     split
     · rename_i cl cw cv k x y z w q n hm1
       intro o2
       show RdM.All _ (match fltsFrom .f64 o2.c with | some (m, g) => _ | none => _) _
       split
       · rename_i m2 g hm2
         intro o3
         show RdM.All _ (match ho2 o3.c with | some (e0, e1) => _ | none => _) _
         split
         · rename_i e0 e1 hm3
           intro o4
           show RdM.All _ (match serOf o4.c with | some (cl0, cw0, cv0, k0, x0, y0, z0, w0, q0, n0) => _ | none => _) _
           split
           · rename_i cl0 cw0 cv0 k0 x0 y0 z0 w0 q0 n0 hm4
             intro o5
             show RdM.All _ (match fltsFrom .f64 o5.c with | some (m, g) => _ | none => _) _
             split
             · rename_i m5 g0 hm5
               intro o6
               show RdM.All _ (match serOf o6.c with | some (cl1, cw1, cv1, k1, x1, y1, z1, w1, q1, n1) => _ | none => _) _
               split
               · rename_i cl1 cw1 cv1 k1 x1 y1 z1 w1 q1 n1 hm6
                 intro o7
                 show RdM.All _ (match fltsFrom .f64 o7.c with | some (m, g) => _ | none => _) _
                 split
                 · rename_i m7 g1 hm7
                   intro ho
                   replace ho : m2 = 2 * n ∧ m5 = 2 * n0 ∧ m7 = 2 * n1 ∧ ((n ≤ 1000000 ∧ SmF g (2 * n)) ∧ (W1 x ∧ W1 y ∧ W1 z ∧ W1 w)) ∧ ((n0 ≤ 1000000 ∧ SmF g0 (2 * n0)) ∧ (W1 x0 ∧ W1 y0 ∧ W1 z0 ∧ W1 w0)) ∧ ((n1 ≤ 1000000 ∧ SmF g1 (2 * n1)) ∧ (W1 x1 ∧ W1 y1 ∧ W1 z1 ∧ W1 w1)) ∧ W1 px ∧ W1 py := ho
                   obtain ⟨hsz2, hsz5, hsz7, ho⟩ := ho
                   subst hsz2
                   subst hsz5
                   subst hsz7
                   refine ⟨?_, _, _, (vc_pcq2 cl cw cv k x y z w q n s h e0 e1 cl0 cw0 cv0 k0 x0 y0 z0 w0 q0 n0 cl1 cw1 cv1 k1 x1 y1 z1 w1 q1 n1 px py g g0 g1).mpr ?_⟩
                   · refine okFlag_mk rfl ⟨?_, ⟨trivial, po2_spec hm0 (by simp [sgSig, fsts, nth, sameN_self]) (by simp [sgSig, fsts, nth, sameN_self]), ⟨trivial, serOf_spec hm1 (by simp [sgSig, fsts, nth, sameN_self]), ⟨trivial, (contR_flts hm2).1, ⟨trivial, ho2_spec hm3 (by simp [sgSig, fsts, nth, sameN_self]) (by simp [sgSig, fsts, nth, sameN_self]), ⟨trivial, serOf_spec hm4 (by simp [sgSig, fsts, nth, sameN_self]), ⟨trivial, (contR_flts hm5).1, ⟨trivial, serOf_spec hm6 (by simp [sgSig, fsts, nth, sameN_self]), ⟨trivial, (contR_flts hm7).1, trivial⟩⟩⟩⟩⟩⟩⟩⟩⟩
                     simp [eqvRL, eqvR, fkEq_self, sgSig, fsts, nth, sameN_self]
                   · simp only [show ∀ g n cl x y z w px py al, (rcp g n (nsg cl n (wz g)) x y z w px py al).1 = rP g n cl x y z w px py al from fun _ _ _ _ _ _ _ _ _ _ => rfl]
                     generalize rP g n cl x y z w px py true = r
                     generalize rP g0 n0 cl0 x0 y0 z0 w0 px py false = r0
                     generalize rP g1 n1 cl1 x1 y1 z1 w1 px py false = r1
                     cases r <;> cases r0 <;> cases r1 <;> simp [ho]
                 · trivial
               · trivial
             · trivial
           · trivial
         · trivial
       · trivial
     · trivial
   · trivial
 · trivial
noncomputable def Gpiq2 : Ctx := ⟨⟨tys, []⟩, [(171, conR pcq2C)]⟩
theorem gpiq2 : CtxOk Tryz.prog Gpiq2 := ⟨⟨tysOk, FlatsOk.nil⟩, GamOk.cons pcq2 GamOk.nil, by kernel_rfl⟩
noncomputable def piq2C : List SV → RdM
 | [.ptr P 0, .agg [.flt .f64 px, .flt .f64 py]] => .read P fun o0 => (match po2 o0.c with
   | some (s, h) => .read s fun o1 => (match serOf o1.c with
   | some (cl, cw, cv, k, x, y, z, w, q, n) => .read q fun o2 => (match fltsFrom .f64 o2.c with
   | some (m2, g) => .read h fun o3 => (match ho2 o3.c with
   | some (e0, e1) => .read e0 fun o4 => (match serOf o4.c with
   | some (cl0, cw0, cv0, k0, x0, y0, z0, w0, q0, n0) => .read q0 fun o5 => (match fltsFrom .f64 o5.c with
   | some (m5, g0) => .read e1 fun o6 => (match serOf o6.c with
   | some (cl1, cw1, cv1, k1, x1, y1, z1, w1, q1, n1) => .read q1 fun o7 => (match fltsFrom .f64 o7.c with
   | some (m7, g1) => .ret ⟨[.ptr 0 0, .agg [.flt .f64 px, .flt .f64 py]], [(0, ⟨false, 137, .cells [.ifc 157 (.ptr 1 0), .slcc 3 2], 0⟩), (1, ⟨false, 150, serC cl cw cv k x y z w 2 n, 0⟩), (2, ⟨false, 100, .flts .f64 m2 g, 0⟩), (3, ⟨false, 106, .cells [.ifc 157 (.ptr 4 0), .ifc 157 (.ptr 6 0)], 0⟩), (4, ⟨false, 150, serC cl0 cw0 cv0 k0 x0 y0 z0 w0 5 n0, 0⟩), (5, ⟨false, 100, .flts .f64 m5 g0, 0⟩), (6, ⟨false, 150, serC cl1 cw1 cv1 k1 x1 y1 z1 w1 7 n1, 0⟩), (7, ⟨false, 100, .flts .f64 m7 g1, 0⟩)], .bool (rP g n cl x y z w px py true && !(rP g0 n0 cl0 x0 y0 z0 w0 px py false) && !(rP g1 n1 cl1 x1 y1 z1 w1 px py false)), [], [], some (m2 = 2 * n ∧ m5 = 2 * n0 ∧ m7 = 2 * n1 ∧ ((n ≤ 1000000 ∧ SmF g (2 * n)) ∧ (W1 x ∧ W1 y ∧ W1 z ∧ W1 w)) ∧ ((n0 ≤ 1000000 ∧ SmF g0 (2 * n0)) ∧ (W1 x0 ∧ W1 y0 ∧ W1 z0 ∧ W1 w0)) ∧ ((n1 ≤ 1000000 ∧ SmF g1 (2 * n1)) ∧ (W1 x1 ∧ W1 y1 ∧ W1 z1 ∧ W1 w1)) ∧ W1 px ∧ W1 py)⟩
   | none => .fail)
   | none => .fail)
   | none => .fail)
   | none => .fail)
   | none => .fail)
   | none => .fail)
   | none => .fail)
   | none => .fail)
 | _ => .fail
theorem vc_piq2 (cl cw cv : Bool) (k : Int) (x y z w : Nat) (_ : Nm) (n : Nat) (_ _ : Nm) (_ _ : Nm) (cl0 cw0 cv0 : Bool) (k0 : Int) (x0 y0 z0 w0 : Nat) (_ : Nm) (n0 : Nat) (cl1 cw1 cv1 : Bool) (k1 : Int) (x1 y1 z1 w1 : Nat) (_ : Nm) (n1 : Nat) (px py : Nat)  (g : Nat → Nat) (g0 : Nat → Nat) (g1 : Nat → Nat) : runA Gpiq2 8 [] [] (codeOf Tryz.f168) (init Tryz.f168.ntmps [.ptr 0 0, .agg [.flt .f64 px, .flt .f64 py]] [(0, ⟨false, 137, .cells [.ifc 157 (.ptr 1 0), .slcc 3 2], 0⟩), (1, ⟨false, 150, serC cl cw cv k x y z w 2 n, 0⟩), (2, ⟨false, 100, .flts .f64 (2 * n) g, 0⟩), (3, ⟨false, 106, .cells [.ifc 157 (.ptr 4 0), .ifc 157 (.ptr 6 0)], 0⟩), (4, ⟨false, 150, serC cl0 cw0 cv0 k0 x0 y0 z0 w0 5 n0, 0⟩), (5, ⟨false, 100, .flts .f64 (2 * n0) g0, 0⟩), (6, ⟨false, 150, serC cl1 cw1 cv1 k1 x1 y1 z1 w1 7 n1, 0⟩), (7, ⟨false, 100, .flts .f64 (2 * n1) g1, 0⟩)] 8) (endK Gpiq2.E.T Tryz.f168.results.toList fun S v => postP 8 ⟨[.ptr 0 0, .agg [.flt .f64 px, .flt .f64 py]], [(0, ⟨false, 137, .cells [.ifc 157 (.ptr 1 0), .slcc 3 2], 0⟩), (1, ⟨false, 150, serC cl cw cv k x y z w 2 n, 0⟩), (2, ⟨false, 100, .flts .f64 (2 * n) g, 0⟩), (3, ⟨false, 106, .cells [.ifc 157 (.ptr 4 0), .ifc 157 (.ptr 6 0)], 0⟩), (4, ⟨false, 150, serC cl0 cw0 cv0 k0 x0 y0 z0 w0 5 n0, 0⟩), (5, ⟨false, 100, .flts .f64 (2 * n0) g0, 0⟩), (6, ⟨false, 150, serC cl1 cw1 cv1 k1 x1 y1 z1 w1 7 n1, 0⟩), (7, ⟨false, 100, .flts .f64 (2 * n1) g1, 0⟩)], .bool (rP g n cl x y z w px py true && !(rP g0 n0 cl0 x0 y0 z0 w0 px py false) && !(rP g1 n1 cl1 x1 y1 z1 w1 px py false)), [], [], some (2 * n = 2 * n ∧ 2 * n0 = 2 * n0 ∧ 2 * n1 = 2 * n1 ∧ ((n ≤ 1000000 ∧ SmF g (2 * n)) ∧ (W1 x ∧ W1 y ∧ W1 z ∧ W1 w)) ∧ ((n0 ≤ 1000000 ∧ SmF g0 (2 * n0)) ∧ (W1 x0 ∧ W1 y0 ∧ W1 z0 ∧ W1 w0)) ∧ ((n1 ≤ 1000000 ∧ SmF g1 (2 * n1)) ∧ (W1 x1 ∧ W1 y1 ∧ W1 z1 ∧ W1 w1)) ∧ W1 px ∧ W1 py)⟩ S v) = (
(2 * n = 2 * n ∧ 2 * n0 = 2 * n0 ∧ 2 * n1 = 2 * n1 ∧ ((n ≤ 1000000 ∧ SmF g (2 * n)) ∧ W1 x ∧ W1 y ∧ W1 z ∧
 W1 w) ∧ ((n0 ≤ 1000000 ∧ SmF g0 (2 * n0)) ∧ W1 x0 ∧ W1 y0 ∧ W1 z0 ∧ W1 w0) ∧ ((n1 ≤ 1000000 ∧ SmF g1
(2 * n1)) ∧ W1 x1 ∧ W1 y1 ∧ W1 z1 ∧ W1 w1) ∧ W1 px ∧ W1 py) ∧ (rP g n cl x y z w px py true && !rP
 g0 n0 cl0 x0 y0 z0 w0 px py false && !rP g1 n1 cl1 x1 y1 z1 w1 px py false) = (rP g n cl x y z w px py true && !rP g0 n0 cl0 x0 y0 z0 w0 px py false && !rP g1 n1 cl1 x1 y1 z1 w1
 px py false) ∧ True) := by kernel_rfl
theorem piq2 : ConOk Tryz.prog 168 (conR piq2C) := by
 refine con_of_vc gpiq2 Tryz.func168 rfl (by kernel_rfl) fun args => ?_
 unfold piq2C
 split
 · rename_i P px py
   intro o0
   show RdM.All _ (match po2 o0.c with | some (s, h) => _ | none => _) _
   split
   · rename_i s h hm0
     intro o1
     show RdM.All _ (match serOf o1.c with | some (cl, cw, cv, k, x, y, z, w, q, n) => _ | none => _) _
     split
     · rename_i cl cw cv k x y z w q n hm1
       intro o2
       show RdM.All _ (match fltsFrom .f64 o2.c with | some (m, g) => _ | none => _) _
       split
       · rename_i m2 g hm2
         intro o3
         show RdM.All _ (match ho2 o3.c with | some (e0, e1) => _ | none => _) _
         split
         · rename_i e0 e1 hm3
           intro o4
           show RdM.All _ (match serOf o4.c with | some (cl0, cw0, cv0, k0, x0, y0, z0, w0, q0, n0) => _ | none => _) _
           split
           · rename_i cl0 cw0 cv0 k0 x0 y0 z0 w0 q0 n0 hm4
             intro o5
             show RdM.All _ (match fltsFrom .f64 o5.c with | some (m, g) => _ | none => _) _
             split
             · rename_i m5 g0 hm5
               intro o6
               show RdM.All _ (match serOf o6.c with | some (cl1, cw1, cv1, k1, x1, y1, z1, w1, q1, n1) => _ | none => _) _
               split
               · rename_i cl1 cw1 cv1 k1 x1 y1 z1 w1 q1 n1 hm6
                 intro o7
                 show RdM.All _ (match fltsFrom .f64 o7.c with | some (m, g) => _ | none => _) _
                 split
                 · rename_i m7 g1 hm7
                   intro ho
                   replace ho : m2 = 2 * n ∧ m5 = 2 * n0 ∧ m7 = 2 * n1 ∧ ((n ≤ 1000000 ∧ SmF g (2 * n)) ∧ (W1 x ∧ W1 y ∧ W1 z ∧ W1 w)) ∧ ((n0 ≤ 1000000 ∧ SmF g0 (2 * n0)) ∧ (W1 x0 ∧ W1 y0 ∧ W1 z0 ∧ W1 w0)) ∧ ((n1 ≤ 1000000 ∧ SmF g1 (2 * n1)) ∧ (W1 x1 ∧ W1 y1 ∧ W1 z1 ∧ W1 w1)) ∧ W1 px ∧ W1 py := ho
                   obtain ⟨hsz2, hsz5, hsz7, ho⟩ := ho
                   subst hsz2
                   subst hsz5
                   subst hsz7
                   refine ⟨?_, _, _, (vc_piq2 cl cw cv k x y z w q n s h e0 e1 cl0 cw0 cv0 k0 x0 y0 z0 w0 q0 n0 cl1 cw1 cv1 k1 x1 y1 z1 w1 q1 n1 px py g g0 g1).mpr ?_⟩
                   · refine okFlag_mk rfl ⟨?_, ⟨trivial, po2_spec hm0 (by simp [sgSig, fsts, nth, sameN_self]) (by simp [sgSig, fsts, nth, sameN_self]), ⟨trivial, serOf_spec hm1 (by simp [sgSig, fsts, nth, sameN_self]), ⟨trivial, (contR_flts hm2).1, ⟨trivial, ho2_spec hm3 (by simp [sgSig, fsts, nth, sameN_self]) (by simp [sgSig, fsts, nth, sameN_self]), ⟨trivial, serOf_spec hm4 (by simp [sgSig, fsts, nth, sameN_self]), ⟨trivial, (contR_flts hm5).1, ⟨trivial, serOf_spec hm6 (by simp [sgSig, fsts, nth, sameN_self]), ⟨trivial, (contR_flts hm7).1, trivial⟩⟩⟩⟩⟩⟩⟩⟩⟩
                     simp [eqvRL, eqvR, fkEq_self, sgSig, fsts, nth, sameN_self]
                   · generalize rP g n cl x y z w px py true = r
                     generalize rP g0 n0 cl0 x0 y0 z0 w0 px py false = r0
                     generalize rP g1 n1 cl1 x1 y1 z1 w1 px py false = r1
                     cases r <;> cases r0 <;> cases r1 <;> simp [ho]
                 · trivial
               · trivial
             · trivial
           · trivial
         · trivial
       · trivial
     · trivial
   · trivial
 · trivial
noncomputable def G39T2 : Ctx := ⟨⟨tys, []⟩, [(64, conR optsC), (63, conR shP2C), (72, conR cornerC), (75, pureCon ptF), (171, conR pcq2C), (168, conR piq2C)]⟩
theorem g39T2 : CtxOk Tryz.prog G39T2 := ⟨⟨tysOk, FlatsOk.nil⟩, GamOk.cons opts (GamOk.cons shP2 (GamOk.cons corner (GamOk.cons (.pure pt) (GamOk.cons pcq2 (GamOk.cons piq2 GamOk.nil))))), by kernel_rfl⟩
noncomputable def asPt2C : List SV → RdM
 | [.agg [.int .i64 3, .slcc n len, .slcc h 2], .agg [.int .i64 0, .slcc m 1, .nils], .int .i64 0, .int .i64 0] => .read n fun o0 => (match intsFrom .i64 o0.c with
   | some (m0, g) => .read h fun o1 => (match hol2 o1.c with
   | some (q0, l0, q1, l1) => .read q0 fun o2 => (match intsFrom .i64 o2.c with
   | some (m2, g0) => .read q1 fun o3 => (match intsFrom .i64 o3.c with
   | some (m3, g1) => .read m fun o4 => (match intsFrom .i64 o4.c with
   | some (m4, gl) => .ret ⟨[.agg [.int .i64 3, .slcc 0 len, .slcc 1 2], .agg [.int .i64 0, .slcc 4 1, .nils], .int .i64 0, .int .i64 0], [(0, ⟨false, 23, .ints .i64 m0 g, 0⟩), (1, ⟨false, 25, .cells [.slcc 2 l0, .slcc 3 l1], 0⟩), (2, ⟨false, 23, .ints .i64 m2 g0, 0⟩), (3, ⟨false, 23, .ints .i64 m3 g1, 0⟩), (4, ⟨false, 23, .ints .i64 m4 gl, 0⟩)], .tup [.bool (vPt g len (gl 0) (gl 1) && !(vPf g0 l0 (gl 0) (gl 1)) && !(vPf g1 l1 (gl 0) (gl 1))), .bool (vPt g len (gl 0) (gl 1) && !(vPf g0 l0 (gl 0) (gl 1)) && !(vPf g1 l1 (gl 0) (gl 1)))], [], [], some (m0 = 2 * len ∧ m2 = 2 * l0 ∧ m3 = 2 * l1 ∧ m4 = 2 ∧ PO g len ∧ PO g0 l0 ∧ PO g1 l1 ∧ small (gl 0) ∧ small (gl 1))⟩
   | none => .fail)
   | none => .fail)
   | none => .fail)
   | none => .fail)
   | none => .fail)
 | _ => .fail
theorem vc_asPt2 (len : Nat) (l0 l1 : Nat) (_ _ : Nm)  (g : Nat → Int) (g0 : Nat → Int) (g1 : Nat → Int) (gl : Nat → Int) : runA G39T2 5 [] [] (codeOf Tryz.f39) (init Tryz.f39.ntmps [.agg [.int .i64 3, .slcc 0 len, .slcc 1 2], .agg [.int .i64 0, .slcc 4 1, .nils], .int .i64 0, .int .i64 0] [(0, ⟨false, 23, .ints .i64 (2 * len) g, 0⟩), (1, ⟨false, 25, .cells [.slcc 2 l0, .slcc 3 l1], 0⟩), (2, ⟨false, 23, .ints .i64 (2 * l0) g0, 0⟩), (3, ⟨false, 23, .ints .i64 (2 * l1) g1, 0⟩), (4, ⟨false, 23, .ints .i64 (2) gl, 0⟩)] 5) (endK G39T2.E.T Tryz.f39.results.toList fun S v => postP 5 ⟨[.agg [.int .i64 3, .slcc 0 len, .slcc 1 2], .agg [.int .i64 0, .slcc 4 1, .nils], .int .i64 0, .int .i64 0], [(0, ⟨false, 23, .ints .i64 (2 * len) g, 0⟩), (1, ⟨false, 25, .cells [.slcc 2 l0, .slcc 3 l1], 0⟩), (2, ⟨false, 23, .ints .i64 (2 * l0) g0, 0⟩), (3, ⟨false, 23, .ints .i64 (2 * l1) g1, 0⟩), (4, ⟨false, 23, .ints .i64 (2) gl, 0⟩)], .tup [.bool (vPt g len (gl 0) (gl 1) && !(vPf g0 l0 (gl 0) (gl 1)) && !(vPf g1 l1 (gl 0) (gl 1))), .bool (vPt g len (gl 0) (gl 1) && !(vPf g0 l0 (gl 0) (gl 1)) && !(vPf g1 l1 (gl 0) (gl 1)))], [], [], some (2 * len = 2 * len ∧ 2 * l0 = 2 * l0 ∧ 2 * l1 = 2 * l1 ∧ 2 = 2 ∧ PO g len ∧ PO g0 l0 ∧ PO g1 l1 ∧ small (gl 0) ∧ small (gl 1))⟩ S v) = (
 True ∧ (2 * len = 2 * len ∧ 2 * l0 = 2 * l0 ∧ 2 * l1 = 2 * l1 ∧ (0 : Int) = 0 ∧ (len ≤ 1000000 ∧ (ppBig len true = true → ppOk (fI
 g) len)) ∧ (l0 ≤ 1000000 ∧ (ppBig l0 true = true → ppOk (fI g0) l0)) ∧ l1 ≤ 1000000 ∧ (ppBig l1 true = true → ppOk (fI g1)
 l1)) ∧ (false = true → False) ∧ (false = false → (false = true → False) ∧ (false = false → (false = true → False) ∧ (false = false → (2 = 2 ∧ (0 : Int) ≤ 0) ∧ (2 * len = 2 * len ∧ 2 * l0 = 2 *
 l0 ∧ 2 * l1 = 2 * l1 ∧ ((len ≤ 1000000 ∧ SmF (fI g) (2 * len)) ∧ W1 (pick (ppBig len true) (rlo
(fI g) 0 len)) ∧ W1 (pick (ppBig len true) (rlo (fI g) 1 len)) ∧ W1 (pick
(ppBig len true) (rhi (fI g) 0 len)) ∧ W1 (pick (ppBig len true) (rhi (fI g) 1 len))) ∧
((l0 ≤ 1000000 ∧ SmF (fI g0) (2 * l0)) ∧ W1 (pick (ppBig l0 true) (rlo (fI g0) 0 l0)) ∧
 W1 (pick (ppBig l0 true) (rlo (fI g0) 1 l0)) ∧ W1 (pick (ppBig l0 true) (rhi
(fI g0) 0 l0)) ∧ W1 (pick (ppBig l0 true) (rhi (fI g0) 1 l0))) ∧ ((l1 ≤ 1000000 ∧ SmF
(fI g1) (2 * l1)) ∧ W1 (pick (ppBig l1 true) (rlo (fI g1) 0 l1)) ∧ W1 (pick
(ppBig l1 true) (rlo (fI g1) 1 l1)) ∧ W1 (pick (ppBig l1 true) (rhi (fI g1) 0 l1)) ∧
 W1 (pick (ppBig l1 true) (rhi (fI g1) 1 l1))) ∧ W1 (ofI .f64 (crn gl 1 (0 : Int) 0)) ∧
 W1 (ofI .f64 (crn gl 1 (0 : Int) 1))) ∧ (2 * len = 2 * len ∧ 2 * l0 = 2 * l0 ∧ 2 * l1 = 2 * l1 ∧ ((len ≤ 1000000 ∧ SmF
(fI g) (2 * len)) ∧ W1 (pick (ppBig len true) (rlo (fI g) 0 len)) ∧ W1 (pick
(ppBig len true) (rlo (fI g) 1 len)) ∧ W1 (pick (ppBig len true) (rhi (fI g) 0 len)) ∧
 W1 (pick (ppBig len true) (rhi (fI g) 1 len))) ∧ ((l0 ≤ 1000000 ∧ SmF (fI g0) (2 * l0)) ∧
 W1 (pick (ppBig l0 true) (rlo (fI g0) 0 l0)) ∧ W1 (pick (ppBig l0 true) (rlo
(fI g0) 1 l0)) ∧ W1 (pick (ppBig l0 true) (rhi (fI g0) 0 l0)) ∧ W1 (pick
(ppBig l0 true) (rhi (fI g0) 1 l0))) ∧ ((l1 ≤ 1000000 ∧ SmF (fI g1) (2 * l1)) ∧ W1 (pick
(ppBig l1 true) (rlo (fI g1) 0 l1)) ∧ W1 (pick (ppBig l1 true) (rlo (fI g1) 1 l1)) ∧
 W1 (pick (ppBig l1 true) (rhi (fI g1) 0 l1)) ∧ W1 (pick (ppBig l1 true) (rhi
(fI g1) 1 l1))) ∧ W1 (ofI .f64 (crn gl 1 (0 : Int) 0)) ∧ W1 (ofI .f64 (crn gl 1 (0 : Int) 1))) ∧ true = true
∧ ((rP (fI g) len true (pick (ppBig len true) (rlo (fI g) 0 len)) (pick (ppBig len true)
(rlo (fI g) 1 len)) (pick (ppBig len true) (rhi (fI g) 0 len)) (pick (ppBig len true)
(rhi (fI g) 1 len)) (ofI .f64 (crn gl 1 (0 : Int) 0)) (ofI .f64 (crn gl 1 (0 : Int) 1)) true && !rP
(fI g0) l0 true (pick (ppBig l0 true) (rlo (fI g0) 0 l0)) (pick (ppBig l0 true) (rlo
(fI g0) 1 l0)) (pick (ppBig l0 true) (rhi (fI g0) 0 l0)) (pick (ppBig l0 true) (rhi
(fI g0) 1 l0)) (ofI .f64 (crn gl 1 (0 : Int) 0)) (ofI .f64 (crn gl 1 (0 : Int) 1)) false && !rP (fI g1) l1
 true (pick (ppBig l1 true) (rlo (fI g1) 0 l1)) (pick (ppBig l1 true) (rlo (fI g1) 1 l1))
(pick (ppBig l1 true) (rhi (fI g1) 0 l1)) (pick (ppBig l1 true) (rhi (fI g1) 1 l1))
(ofI .f64 (crn gl 1 (0 : Int) 0)) (ofI .f64 (crn gl 1 (0 : Int) 1)) false) = (vPt g len (gl 0) (gl 1) && !vPf g0 l0
(gl 0) (gl 1) && !vPf g1 l1 (gl 0) (gl 1)) ∧ (rP (fI g) len true (pick (ppBig len true) (rlo
(fI g) 0 len)) (pick (ppBig len true) (rlo (fI g) 1 len)) (pick (ppBig len true) (rhi
(fI g) 0 len)) (pick (ppBig len true) (rhi (fI g) 1 len)) (ofI .f64 (crn gl 1 (0 : Int) 0)) (ofI
.f64 (crn gl 1 (0 : Int) 1)) true && !rP (fI g0) l0 true (pick (ppBig l0 true) (rlo (fI g0) 0 l0))
(pick (ppBig l0 true) (rlo (fI g0) 1 l0)) (pick (ppBig l0 true) (rhi (fI g0) 0 l0))
(pick (ppBig l0 true) (rhi (fI g0) 1 l0)) (ofI .f64 (crn gl 1 (0 : Int) 0)) (ofI .f64 (crn gl 1 (0
: Int) 1)) false && !rP (fI g1) l1 true (pick (ppBig l1 true) (rlo (fI g1) 0 l1)) (pick
(ppBig l1 true) (rlo (fI g1) 1 l1)) (pick (ppBig l1 true) (rhi (fI g1) 0 l1)) (pick
(ppBig l1 true) (rhi (fI g1) 1 l1)) (ofI .f64 (crn gl 1 (0 : Int) 0)) (ofI .f64 (crn gl 1 (0 : Int) 1))
 false) = (vPt g len (gl 0) (gl 1) && !vPf g0 l0 (gl 0) (gl 1) && !vPf g1 l1 (gl 0) (gl 1)) ∧ True) ∧ True)))) := by kernel_rfl
theorem asPt2 : ConOk Tryz.prog 39 (conR asPt2C) := by
 refine con_of_vc g39T2 Tryz.func39 rfl (by kernel_rfl) fun args => ?_
 unfold asPt2C
 split
 · rename_i n len h m
   intro o0
   show RdM.All _ (match intsFrom .i64 o0.c with | some (m, g) => _ | none => _) _
   split
   · rename_i m0 g hm0
     intro o1
     show RdM.All _ (match hol2 o1.c with | some (q0, l0, q1, l1) => _ | none => _) _
     split
     · rename_i q0 l0 q1 l1 hm1
       intro o2
       show RdM.All _ (match intsFrom .i64 o2.c with | some (m, g) => _ | none => _) _
       split
       · rename_i m2 g0 hm2
         intro o3
         show RdM.All _ (match intsFrom .i64 o3.c with | some (m, g) => _ | none => _) _
         split
         · rename_i m3 g1 hm3
           intro o4
           show RdM.All _ (match intsFrom .i64 o4.c with | some (m, g) => _ | none => _) _
           split
           · rename_i m4 gl hm4
             intro ho
             replace ho : m0 = 2 * len ∧ m2 = 2 * l0 ∧ m3 = 2 * l1 ∧ m4 = 2 ∧ PO g len ∧ PO g0 l0 ∧ PO g1 l1 ∧ small (gl 0) ∧ small (gl 1) := ho
             obtain ⟨hsz0, hsz2, hsz3, hsz4, ho⟩ := ho
             subst hsz0
             subst hsz2
             subst hsz3
             subst hsz4
             refine ⟨?_, _, _, (vc_asPt2 len l0 l1 q0 q1 g g0 g1 gl).mpr ?_⟩
             · refine okFlag_mk rfl ⟨?_, ⟨trivial, (contR_ints hm0).1, ⟨trivial, hol2_spec hm1 (by simp [sgSig, fsts, nth, sameN_self]) (by simp [sgSig, fsts, nth, sameN_self]), ⟨trivial, (contR_ints hm2).1, ⟨trivial, (contR_ints hm3).1, ⟨trivial, (contR_ints hm4).1, trivial⟩⟩⟩⟩⟩⟩
               simp [eqvRL, eqvR, kEq_self, sgSig, fsts, nth, sameN_self]
             · obtain ⟨h1, a0, a1, h2⟩ := ho
               have c0 : crn gl 1 0 0 = gl 0 := rfl
               have c1 : crn gl 1 0 1 = gl 1 := rfl
               simp only [true_and, and_true, eq_self, true_implies, c0, c1, Bool.false_eq_true, false_implies]
               exact ⟨⟨⟨h1.len, fun hb => h1.ppOk hb⟩, ⟨a0.len, fun hb => a0.ppOk hb⟩, ⟨a1.len, fun hb => a1.ppOk hb⟩⟩, by decide, ⟨h1.ob, a0.ob, a1.ob, (w1_fI h2.1).1, (w1_fI h2.2).1⟩, ⟨h1.ob, a0.ob, a1.ob, (w1_fI h2.1).1, (w1_fI h2.2).1⟩, rfl, rfl⟩
           · trivial
         · trivial
       · trivial
     · trivial
   · trivial
 · trivial
def po3 : Cont → Option (Nm × Nm)
 | .cells [.ifc 157 (.ptr s 0), .slcc h 3] => some (s, h)
 | _ => none
theorem po3_spec {σ : Sig} {c : Cont} {p q h h' : Nm} (hc : po3 c = some (p, h)) (hs : sameN (σ q) p) (hh : sameN (σ h') h) : contR σ c (.cells [.ifc 157 (.ptr q 0), .slcc h' 3]) := by
 unfold po3 at hc
 split at hc
 · simp only [Option.some.injEq, Prod.mk.injEq] at hc
   obtain ⟨rfl, rfl⟩ := hc
   show eqvRL σ _ _
   simp [eqvRL, eqvR, hs, hh]
 · cases hc
def ho3 : Cont → Option (Nm × Nm × Nm)
 | .cells [.ifc 157 (.ptr e0 0), .ifc 157 (.ptr e1 0), .ifc 157 (.ptr e2 0)] => some (e0, e1, e2)
 | _ => none
theorem ho3_spec {σ : Sig} {c : Cont} {p0 q0 p1 q1 p2 q2 : Nm} (h : ho3 c = some (p0, p1, p2)) (s0 : sameN (σ q0) p0) (s1 : sameN (σ q1) p1) (s2 : sameN (σ q2) p2) : contR σ c (.cells [.ifc 157 (.ptr q0 0), .ifc 157 (.ptr q1 0), .ifc 157 (.ptr q2 0)]) := by
 unfold ho3 at h
 split at h
 · simp only [Option.some.injEq, Prod.mk.injEq] at h
   obtain ⟨rfl, rfl, rfl⟩ := h
   show eqvRL σ _ _
   simp [eqvRL, eqvR, s0, s1, s2]
 · cases h
noncomputable def pcq3C : List SV → RdM
 | [.ptr P 0, .agg [.flt .f64 px, .flt .f64 py]] => .read P fun o0 => (match po3 o0.c with
   | some (s, h) => .read s fun o1 => (match serOf o1.c with
   | some (cl, cw, cv, k, x, y, z, w, q, n) => .read q fun o2 => (match fltsFrom .f64 o2.c with
   | some (m2, g) => .read h fun o3 => (match ho3 o3.c with
   | some (e0, e1, e2) => .read e0 fun o4 => (match serOf o4.c with
   | some (cl0, cw0, cv0, k0, x0, y0, z0, w0, q0, n0) => .read q0 fun o5 => (match fltsFrom .f64 o5.c with
   | some (m5, g0) => .read e1 fun o6 => (match serOf o6.c with
   | some (cl1, cw1, cv1, k1, x1, y1, z1, w1, q1, n1) => .read q1 fun o7 => (match fltsFrom .f64 o7.c with
   | some (m7, g1) => .read e2 fun o8 => (match serOf o8.c with
   | some (cl2, cw2, cv2, k2, x2, y2, z2, w2, q2, n2) => .read q2 fun o9 => (match fltsFrom .f64 o9.c with
   | some (m9, g2) => .ret ⟨[.ptr 0 0, .agg [.flt .f64 px, .flt .f64 py]], [(0, ⟨false, 137, .cells [.ifc 157 (.ptr 1 0), .slcc 3 3], 0⟩), (1, ⟨false, 150, serC cl cw cv k x y z w 2 n, 0⟩), (2, ⟨false, 100, .flts .f64 m2 g, 0⟩), (3, ⟨false, 106, .cells [.ifc 157 (.ptr 4 0), .ifc 157 (.ptr 6 0), .ifc 157 (.ptr 8 0)], 0⟩), (4, ⟨false, 150, serC cl0 cw0 cv0 k0 x0 y0 z0 w0 5 n0, 0⟩), (5, ⟨false, 100, .flts .f64 m5 g0, 0⟩), (6, ⟨false, 150, serC cl1 cw1 cv1 k1 x1 y1 z1 w1 7 n1, 0⟩), (7, ⟨false, 100, .flts .f64 m7 g1, 0⟩), (8, ⟨false, 150, serC cl2 cw2 cv2 k2 x2 y2 z2 w2 9 n2, 0⟩), (9, ⟨false, 100, .flts .f64 m9 g2, 0⟩)], .bool (rP g n cl x y z w px py true && !(rP g0 n0 cl0 x0 y0 z0 w0 px py false) && !(rP g1 n1 cl1 x1 y1 z1 w1 px py false) && !(rP g2 n2 cl2 x2 y2 z2 w2 px py false)), [], [], some (m2 = 2 * n ∧ m5 = 2 * n0 ∧ m7 = 2 * n1 ∧ m9 = 2 * n2 ∧ ((n ≤ 1000000 ∧ SmF g (2 * n)) ∧ (W1 x ∧ W1 y ∧ W1 z ∧ W1 w)) ∧ ((n0 ≤ 1000000 ∧ SmF g0 (2 * n0)) ∧ (W1 x0 ∧ W1 y0 ∧ W1 z0 ∧ W1 w0)) ∧ ((n1 ≤ 1000000 ∧ SmF g1 (2 * n1)) ∧ (W1 x1 ∧ W1 y1 ∧ W1 z1 ∧ W1 w1)) ∧ ((n2 ≤ 1000000 ∧ SmF g2 (2 * n2)) ∧ (W1 x2 ∧ W1 y2 ∧ W1 z2 ∧ W1 w2)) ∧ W1 px ∧ W1 py)⟩
   | none => .fail)
   | none => .fail)
   | none => .fail)
   | none => .fail)
   | none => .fail)
   | none => .fail)
   | none => .fail)
   | none => .fail)
   | none => .fail)
   | none => .fail)
 | _ => .fail
theorem vc_pcq3 (cl cw cv : Bool) (k : Int) (x y z w : Nat) (_ : Nm) (n : Nat) (_ _ : Nm) (_ _ _ : Nm) (cl0 cw0 cv0 : Bool) (k0 : Int) (x0 y0 z0 w0 : Nat) (_ : Nm) (n0 : Nat) (cl1 cw1 cv1 : Bool) (k1 : Int) (x1 y1 z1 w1 : Nat) (_ : Nm) (n1 : Nat) (cl2 cw2 cv2 : Bool) (k2 : Int) (x2 y2 z2 w2 : Nat) (_ : Nm) (n2 : Nat) (px py : Nat)  (g : Nat → Nat) (g0 : Nat → Nat) (g1 : Nat → Nat) (g2 : Nat → Nat) : runA Gpcq 10 [(7, .unr [⟨Nat, fun _ => ⟨40, [(3, .ptr 10 0), (5, .tt), (28, .slcc 3 3), (29, .int .i64 3), (30, .int .i64 0)], [(3, ⟨false, 106, .cells [.ifc 157 (.ptr 4 0), .ifc 157 (.ptr 6 0), .ifc 157 (.ptr 8 0)], 0⟩), (4, ⟨false, 150, serC cl0 cw0 cv0 k0 x0 y0 z0 w0 5 n0, 0⟩), (5, ⟨false, 100, .flts .f64 (2 * n0) g0, 0⟩), (6, ⟨false, 150, serC cl1 cw1 cv1 k1 x1 y1 z1 w1 7 n1, 0⟩), (7, ⟨false, 100, .flts .f64 (2 * n1) g1, 0⟩), (8, ⟨false, 150, serC cl2 cw2 cv2 k2 x2 y2 z2 w2 9 n2, 0⟩), (9, ⟨false, 100, .flts .f64 (2 * n2) g2, 0⟩), (10, ⟨true, 100, .cells [.flt .f64 px, .flt .f64 py], 0⟩)], 11⟩, fun _ => rP g n cl x y z w px py true = true, fun _ => 0⟩, ⟨Nat, fun _ => ⟨40, [(3, .ptr 10 0), (5, .tt), (28, .slcc 3 3), (29, .int .i64 3), (30, .int .i64 1)], [(3, ⟨false, 106, .cells [.ifc 157 (.ptr 4 0), .ifc 157 (.ptr 6 0), .ifc 157 (.ptr 8 0)], 0⟩), (4, ⟨false, 150, serC cl0 cw0 cv0 k0 x0 y0 z0 w0 5 n0, 0⟩), (5, ⟨false, 100, .flts .f64 (2 * n0) g0, 0⟩), (6, ⟨false, 150, serC cl1 cw1 cv1 k1 x1 y1 z1 w1 7 n1, 0⟩), (7, ⟨false, 100, .flts .f64 (2 * n1) g1, 0⟩), (8, ⟨false, 150, serC cl2 cw2 cv2 k2 x2 y2 z2 w2 9 n2, 0⟩), (9, ⟨false, 100, .flts .f64 (2 * n2) g2, 0⟩), (10, ⟨true, 100, .cells [.flt .f64 px, .flt .f64 py], 0⟩)], 11⟩, fun _ => rP g n cl x y z w px py true = true ∧ rP g0 n0 cl0 x0 y0 z0 w0 px py false = false, fun _ => 0⟩, ⟨Nat, fun _ => ⟨40, [(3, .ptr 10 0), (5, .tt), (28, .slcc 3 3), (29, .int .i64 3), (30, .int .i64 2)], [(3, ⟨false, 106, .cells [.ifc 157 (.ptr 4 0), .ifc 157 (.ptr 6 0), .ifc 157 (.ptr 8 0)], 0⟩), (4, ⟨false, 150, serC cl0 cw0 cv0 k0 x0 y0 z0 w0 5 n0, 0⟩), (5, ⟨false, 100, .flts .f64 (2 * n0) g0, 0⟩), (6, ⟨false, 150, serC cl1 cw1 cv1 k1 x1 y1 z1 w1 7 n1, 0⟩), (7, ⟨false, 100, .flts .f64 (2 * n1) g1, 0⟩), (8, ⟨false, 150, serC cl2 cw2 cv2 k2 x2 y2 z2 w2 9 n2, 0⟩), (9, ⟨false, 100, .flts .f64 (2 * n2) g2, 0⟩), (10, ⟨true, 100, .cells [.flt .f64 px, .flt .f64 py], 0⟩)], 11⟩, fun _ => rP g n cl x y z w px py true = true ∧ rP g0 n0 cl0 x0 y0 z0 w0 px py false = false ∧ rP g1 n1 cl1 x1 y1 z1 w1 px py false = false, fun _ => 0⟩, ⟨Nat, fun _ => ⟨40, [(3, .ptr 10 0), (5, .tt), (28, .slcc 3 3), (29, .int .i64 3), (30, .int .i64 3)], [(3, ⟨false, 106, .cells [.ifc 157 (.ptr 4 0), .ifc 157 (.ptr 6 0), .ifc 157 (.ptr 8 0)], 0⟩), (4, ⟨false, 150, serC cl0 cw0 cv0 k0 x0 y0 z0 w0 5 n0, 0⟩), (5, ⟨false, 100, .flts .f64 (2 * n0) g0, 0⟩), (6, ⟨false, 150, serC cl1 cw1 cv1 k1 x1 y1 z1 w1 7 n1, 0⟩), (7, ⟨false, 100, .flts .f64 (2 * n1) g1, 0⟩), (8, ⟨false, 150, serC cl2 cw2 cv2 k2 x2 y2 z2 w2 9 n2, 0⟩), (9, ⟨false, 100, .flts .f64 (2 * n2) g2, 0⟩), (10, ⟨true, 100, .cells [.flt .f64 px, .flt .f64 py], 0⟩)], 11⟩, fun _ => rP g n cl x y z w px py true = true ∧ rP g0 n0 cl0 x0 y0 z0 w0 px py false = false ∧ rP g1 n1 cl1 x1 y1 z1 w1 px py false = false ∧ rP g2 n2 cl2 x2 y2 z2 w2 px py false = false, fun _ => 0⟩])] [] (codeOf Tryz.f171) (init Tryz.f171.ntmps [.ptr 0 0, .agg [.flt .f64 px, .flt .f64 py]] [(0, ⟨false, 137, .cells [.ifc 157 (.ptr 1 0), .slcc 3 3], 0⟩), (1, ⟨false, 150, serC cl cw cv k x y z w 2 n, 0⟩), (2, ⟨false, 100, .flts .f64 (2 * n) g, 0⟩), (3, ⟨false, 106, .cells [.ifc 157 (.ptr 4 0), .ifc 157 (.ptr 6 0), .ifc 157 (.ptr 8 0)], 0⟩), (4, ⟨false, 150, serC cl0 cw0 cv0 k0 x0 y0 z0 w0 5 n0, 0⟩), (5, ⟨false, 100, .flts .f64 (2 * n0) g0, 0⟩), (6, ⟨false, 150, serC cl1 cw1 cv1 k1 x1 y1 z1 w1 7 n1, 0⟩), (7, ⟨false, 100, .flts .f64 (2 * n1) g1, 0⟩), (8, ⟨false, 150, serC cl2 cw2 cv2 k2 x2 y2 z2 w2 9 n2, 0⟩), (9, ⟨false, 100, .flts .f64 (2 * n2) g2, 0⟩)] 10) (endK Gpcq.E.T Tryz.f171.results.toList fun S v => postP 10 ⟨[.ptr 0 0, .agg [.flt .f64 px, .flt .f64 py]], [(0, ⟨false, 137, .cells [.ifc 157 (.ptr 1 0), .slcc 3 3], 0⟩), (1, ⟨false, 150, serC cl cw cv k x y z w 2 n, 0⟩), (2, ⟨false, 100, .flts .f64 (2 * n) g, 0⟩), (3, ⟨false, 106, .cells [.ifc 157 (.ptr 4 0), .ifc 157 (.ptr 6 0), .ifc 157 (.ptr 8 0)], 0⟩), (4, ⟨false, 150, serC cl0 cw0 cv0 k0 x0 y0 z0 w0 5 n0, 0⟩), (5, ⟨false, 100, .flts .f64 (2 * n0) g0, 0⟩), (6, ⟨false, 150, serC cl1 cw1 cv1 k1 x1 y1 z1 w1 7 n1, 0⟩), (7, ⟨false, 100, .flts .f64 (2 * n1) g1, 0⟩), (8, ⟨false, 150, serC cl2 cw2 cv2 k2 x2 y2 z2 w2 9 n2, 0⟩), (9, ⟨false, 100, .flts .f64 (2 * n2) g2, 0⟩)], .bool (rP g n cl x y z w px py true && !(rP g0 n0 cl0 x0 y0 z0 w0 px py false) && !(rP g1 n1 cl1 x1 y1 z1 w1 px py false) && !(rP g2 n2 cl2 x2 y2 z2 w2 px py false)), [], [], some (2 * n = 2 * n ∧ 2 * n0 = 2 * n0 ∧ 2 * n1 = 2 * n1 ∧ 2 * n2 = 2 * n2 ∧ ((n ≤ 1000000 ∧ SmF g (2 * n)) ∧ (W1 x ∧ W1 y ∧ W1 z ∧ W1 w)) ∧ ((n0 ≤ 1000000 ∧ SmF g0 (2 * n0)) ∧ (W1 x0 ∧ W1 y0 ∧ W1 z0 ∧ W1 w0)) ∧ ((n1 ≤ 1000000 ∧ SmF g1 (2 * n1)) ∧ (W1 x1 ∧ W1 y1 ∧ W1 z1 ∧ W1 w1)) ∧ ((n2 ≤ 1000000 ∧ SmF g2 (2 * n2)) ∧ (W1 x2 ∧ W1 y2 ∧ W1 z2 ∧ W1 w2)) ∧ W1 px ∧ W1 py)⟩ S v) = (
(2 * n = 2 * n ∧ n ≤ 1000000 ∧ SmF g (2 * n) ∧ W1 px ∧ W1 py) ∧ true = true ∧ ((!(rcp g n (nsg cl n
(wz g)) x y z w px py true).1) = true → (rP g n cl x y z w px py true && !rP g0 n0 cl0 x0 y0 z0 w0 px py false && !rP g1 n1 cl1 x1 y1 z1 w1 px py false && !rP g2
 n2 cl2 x2 y2 z2 w2 px py false) = false ∧ True) ∧ ((!(rcp g n (nsg cl n (wz g)) x y z w px py true).1) = false → (∃ (_ : Nat), rP g n cl x y z w px py true = true ∧ ((True
∧ 0 = 0) ∧ True ∧ (True ∧ 3 = 3) ∧ (3 : Int) = 3 ∧ (0 : Int) = 0 ∧ True) ∧ True ∧ ((True ∧ 0 = 0) ∧ (True ∧ 0 = 0) ∧ (True ∧ 0 = 0) ∧ True) ∧ True ∧ (cl0
= cl0 ∧ cw0 = cw0 ∧ cv0 = cv0 ∧ k0 = k0 ∧ True ∧ x0 = x0 ∧ y0 = y0 ∧ z0 = z0 ∧ w0 = w0 ∧ (True ∧ n0 = n0) ∧ True) ∧ True ∧ (2 * n0 ≤ 2 * n0 ∧ ∀ (i : Nat), i < 2 * n0 → g0 i = g0 i) ∧ True ∧ (cl1 = cl1 ∧ cw1 = cw1 ∧ cv1 = cv1 ∧
 k1 = k1 ∧ True ∧ x1 = x1 ∧ y1 = y1 ∧ z1 = z1 ∧ w1 = w1 ∧ (True ∧ n1 = n1) ∧ True) ∧ True ∧ (2 * n1 ≤ 2 * n1 ∧ ∀ (i : Nat), i < 2 * n1 → g1 i = g1 i) ∧ True ∧ (cl2 = cl2 ∧ cw2 = cw2 ∧ cv2 = cv2 ∧ k2 = k2 ∧ True ∧ x2 = x2 ∧ y2 =
 y2 ∧ z2 = z2 ∧ w2 = w2 ∧ (True ∧ n2 = n2) ∧ True) ∧ True ∧ (2 * n2 ≤ 2 * n2 ∧ ∀ (i : Nat), i < 2 * n2 → g2 i = g2 i) ∧ True ∧ (100 = 100 ∧ 0 = 0 ∧ px = px ∧ py = py ∧ True) ∧ True) ∧ (∀ (_ :
 Nat), rP g n cl x y z w px py true = true → (true = true → (((0 : Int) ≤ 0 ∧ (0 : Int) < 3) ∧ True) ∧ (2 * n0 = 2 * n0 ∧ n0 ≤ 1000000 ∧ SmF g0 (2 * n0) ∧
 W1 px ∧ W1 py) ∧ ((rcp g0 n0 (nsg cl0 n0 (wz g0)) x0 y0 z0 w0 px py false).1 = true → (rP g n cl x y z w px py true &&
!rP g0 n0 cl0 x0 y0 z0 w0 px py false && !rP g1 n1 cl1 x1 y1 z1 w1 px py false && !rP g2 n2 cl2 x2 y2 z2 w2 px py false) = false ∧ True) ∧ ((rcp g0 n0
(nsg cl0 n0 (wz g0)) x0 y0 z0 w0 px py false).1 = false → ∃ (_ : Nat), (rP g n cl x y z w px py true = true ∧ rP g0 n0 cl0 x0 y0 z0 w0 px py false = false) ∧ ((True ∧ 0 =
0) ∧ True ∧ (True ∧ 3 = 3) ∧ (3 : Int) = 3 ∧ (1 : Int) = 1 ∧ True) ∧ True ∧ ((True ∧ 0 = 0) ∧ (True ∧ 0 = 0) ∧ (True ∧ 0 = 0) ∧ True) ∧ True ∧ (cl0 = cl0 ∧ cw0 =
 cw0 ∧ cv0 = cv0 ∧ k0 = k0 ∧ True ∧ x0 = x0 ∧ y0 = y0 ∧ z0 = z0 ∧ w0 = w0 ∧ (True ∧ n0 = n0) ∧ True) ∧ True ∧ (2 * n0 ≤ 2 * n0 ∧ ∀ (i : Nat), i < 2 * n0 → g0 i = g0 i) ∧ True ∧ (cl1 = cl1 ∧ cw1 = cw1 ∧ cv1 = cv1 ∧ k1 = k1 ∧
 True ∧ x1 = x1 ∧ y1 = y1 ∧ z1 = z1 ∧ w1 = w1 ∧ (True ∧ n1 = n1) ∧ True) ∧ True ∧ (2 * n1 ≤ 2 * n1 ∧ ∀ (i : Nat), i < 2 * n1 → g1 i = g1 i) ∧ True ∧ (cl2 = cl2 ∧ cw2 = cw2 ∧ cv2 = cv2 ∧ k2 = k2 ∧ True ∧ x2 = x2 ∧ y2 = y2 ∧ z2 =
 z2 ∧ w2 = w2 ∧ (True ∧ n2 = n2) ∧ True) ∧ True ∧ (2 * n2 ≤ 2 * n2 ∧ ∀ (i : Nat), i < 2 * n2 → g2 i = g2 i) ∧ True ∧ (100 = 100 ∧ 0 = 0 ∧ px = px ∧ py = py ∧ True) ∧ True)) ∧ (true = false →
(rP g n cl x y z w px py true && !rP g0 n0 cl0 x0 y0 z0 w0 px py false && !rP g1 n1 cl1 x1 y1 z1 w1 px py false && !rP g2 n2 cl2 x2 y2 z2 w2 px py false) = true ∧ True)) ∧ (∀ (_
: Nat), rP g n cl x y z w px py true = true ∧ rP g0 n0 cl0 x0 y0 z0 w0 px py false = false → (true = true → (((0 : Int) ≤ 1 ∧ (1 : Int) < 3) ∧ True) ∧ (2 * n1 = 2 * n1 ∧ n1 ≤
1000000 ∧ SmF g1 (2 * n1) ∧ W1 px ∧ W1 py) ∧ ((rcp g1 n1 (nsg cl1 n1 (wz g1)) x1 y1 z1 w1 px py false).1 = true →
(rP g n cl x y z w px py true && !rP g0 n0 cl0 x0 y0 z0 w0 px py false && !rP g1 n1 cl1 x1 y1 z1 w1 px py false && !rP g2 n2 cl2 x2 y2 z2 w2 px py false) = false ∧ True) ∧
((rcp g1 n1 (nsg cl1 n1 (wz g1)) x1 y1 z1 w1 px py false).1 = false → ∃ (_ : Nat), (rP g n cl x y z w px py true = true ∧ rP g0 n0 cl0 x0 y0 z0 w0 px py
 false = false ∧ rP g1 n1 cl1 x1 y1 z1 w1 px py false = false) ∧ ((True ∧ 0 = 0) ∧ True ∧ (True ∧ 3 = 3) ∧ (3 : Int) = 3 ∧ (2 : Int) = 2 ∧ True) ∧ True ∧ ((True ∧ 0 = 0)
∧ (True ∧ 0 = 0) ∧ (True ∧ 0 = 0) ∧ True) ∧ True ∧ (cl0 = cl0 ∧ cw0 = cw0 ∧ cv0 = cv0 ∧ k0 = k0 ∧ True ∧ x0 = x0 ∧ y0 = y0 ∧ z0 = z0 ∧ w0 = w0 ∧ (True ∧ n0 = n0) ∧ True) ∧ True ∧ (2 * n0 ≤ 2 * n0 ∧ ∀ (i
: Nat), i < 2 * n0 → g0 i = g0 i) ∧ True ∧ (cl1 = cl1 ∧ cw1 = cw1 ∧ cv1 = cv1 ∧ k1 = k1 ∧ True ∧ x1 = x1 ∧ y1 = y1 ∧ z1 = z1 ∧ w1 = w1 ∧ (True ∧ n1 = n1) ∧ True) ∧ True ∧ (2 * n1 ≤ 2 * n1 ∧ ∀ (i : Nat), i < 2 * n1 → g1
 i = g1 i) ∧ True ∧ (cl2 = cl2 ∧ cw2 = cw2 ∧ cv2 = cv2 ∧ k2 = k2 ∧ True ∧ x2 = x2 ∧ y2 = y2 ∧ z2 = z2 ∧ w2 = w2 ∧ (True ∧ n2 = n2) ∧ True) ∧ True ∧ (2 * n2 ≤ 2 * n2 ∧ ∀ (i : Nat), i < 2 * n2 → g2 i = g2 i) ∧ True ∧ (100
= 100 ∧ 0 = 0 ∧ px = px ∧ py = py ∧ True) ∧ True)) ∧ (true = false → (rP g n cl x y z w px py true && !rP g0 n0 cl0 x0 y0 z0 w0 px py false && !rP g1 n1 cl1 x1 y1 z1 w1 px
 py false && !rP g2 n2 cl2 x2 y2 z2 w2 px py false) = true ∧ True)) ∧ (∀ (_ : Nat), rP g n cl x y z w px py true = true ∧ rP g0 n0 cl0 x0 y0 z0 w0 px py false = false ∧ rP g1 n1
 cl1 x1 y1 z1 w1 px py false = false → (true = true → (((0 : Int) ≤ 2 ∧ (2 : Int) < 3) ∧ True) ∧ (2 * n2 = 2 * n2 ∧ n2 ≤ 1000000 ∧ SmF g2 (2 * n2) ∧ W1 px ∧
 W1 py) ∧ ((rcp g2 n2 (nsg cl2 n2 (wz g2)) x2 y2 z2 w2 px py false).1 = true → (rP g n cl x y z w px py true && !rP g0 n0 cl0 x0 y0 z0
 w0 px py false && !rP g1 n1 cl1 x1 y1 z1 w1 px py false && !rP g2 n2 cl2 x2 y2 z2 w2 px py false) = false ∧ True) ∧ ((rcp g2 n2 (nsg cl2 n2 (wz g2)) x2
 y2 z2 w2 px py false).1 = false → ∃ (_ : Nat), (rP g n cl x y z w px py true = true ∧ rP g0 n0 cl0 x0 y0 z0 w0 px py false = false ∧ rP g1 n1 cl1 x1 y1 z1 w1 px py false = false ∧
 rP g2 n2 cl2 x2 y2 z2 w2 px py false = false) ∧ ((True ∧ 0 = 0) ∧ True ∧ (True ∧ 3 = 3) ∧ (3 : Int) = 3 ∧ (3 : Int) = 3 ∧ True) ∧ True ∧ ((True ∧ 0 = 0) ∧ (True ∧ 0 = 0) ∧ (True ∧ 0 = 0) ∧ True) ∧ True ∧ (cl0 = cl0 ∧ cw0 = cw0 ∧ cv0 = cv0 ∧ k0 = k0 ∧ True ∧ x0 = x0 ∧ y0 = y0 ∧ z0 = z0 ∧ w0 = w0 ∧ (True ∧ n0 = n0) ∧ True) ∧ True ∧ (2 * n0 ≤ 2 * n0 ∧ ∀ (i : Nat), i < 2 * n0 → g0 i = g0 i) ∧ True ∧ (cl1 = cl1 ∧ cw1 = cw1 ∧ cv1 = cv1 ∧ k1 = k1 ∧ True ∧ x1 = x1 ∧ y1 = y1 ∧ z1 = z1 ∧ w1 = w1 ∧ (True ∧ n1 = n1) ∧ True) ∧ True ∧ (2 * n1 ≤ 2 * n1 ∧ ∀ (i : Nat), i < 2 * n1 → g1 i = g1 i) ∧
 True ∧ (cl2 = cl2 ∧ cw2 = cw2 ∧ cv2 = cv2 ∧ k2 = k2 ∧ True ∧ x2 = x2 ∧ y2 = y2 ∧ z2 = z2 ∧ w2 = w2 ∧ (True ∧ n2 = n2) ∧ True) ∧ True ∧ (2 * n2 ≤ 2 * n2 ∧ ∀ (i : Nat), i < 2 * n2 → g2 i = g2 i) ∧ True ∧ (100 = 100 ∧ 0 = 0 ∧ px = px ∧ py = py ∧ True) ∧ True)) ∧ (true = false → (rP g n cl x y z w px py true && !rP g0 n0 cl0 x0 y0 z0 w0 px py false && !rP g1 n1 cl1 x1 y1 z1 w1 px py false
&& !rP g2 n2 cl2 x2 y2 z2 w2 px py false) = true ∧ True)) ∧ (∀ (_ : Nat), rP g n cl x y z w px py true = true ∧ rP g0 n0 cl0 x0 y0 z0 w0 px py false = false ∧ rP g1 n1 cl1 x1 y1
 z1 w1 px py false = false ∧ rP g2 n2 cl2 x2 y2 z2 w2 px py false = false → (false = true → (((0 : Int) ≤ 3 ∧ (3 : Int) < 3) ∧ True) ∧ False) ∧ (false = false → (rP g n cl x y z w px py true &&
!rP g0 n0 cl0 x0 y0 z0 w0 px py false && !rP g1 n1 cl1 x1 y1 z1 w1 px py false && !rP g2 n2 cl2 x2 y2 z2 w2 px py false) = true ∧ True)) ∧ True)) := by kernel_rfl
theorem pcq3 : ConOk Tryz.prog 171 (conR pcq3C) := by
 refine con_of_vc gpcq Tryz.func171 rfl (by kernel_rfl) fun args => ?_
 unfold pcq3C
 split
 · rename_i P px py
   intro o0
   show RdM.All _ (match po3 o0.c with | some (s, h) => _ | none => _) _
   split
   · rename_i s h hm0
     intro o1
     show RdM.All _ (match serOf o1.c with | some (cl, cw, cv, k, x, y, z, w, q, n) => _ | none => _) _
     split
     · rename_i cl cw cv k x y z w q n hm1
       intro o2
       show RdM.All _ (match fltsFrom .f64 o2.c with | some (m, g) => _ | none => _) _
       split
       · rename_i m2 g hm2
         intro o3
         show RdM.All _ (match ho3 o3.c with | some (e0, e1, e2) => _ | none => _) _
         split
         · rename_i e0 e1 e2 hm3
           intro o4
           show RdM.All _ (match serOf o4.c with | some (cl0, cw0, cv0, k0, x0, y0, z0, w0, q0, n0) => _ | none => _) _
           split
           · rename_i cl0 cw0 cv0 k0 x0 y0 z0 w0 q0 n0 hm4
             intro o5
             show RdM.All _ (match fltsFrom .f64 o5.c with | some (m, g) => _ | none => _) _
             split
             · rename_i m5 g0 hm5
               intro o6
               show RdM.All _ (match serOf o6.c with | some (cl1, cw1, cv1, k1, x1, y1, z1, w1, q1, n1) => _ | none => _) _
               split
               · rename_i cl1 cw1 cv1 k1 x1 y1 z1 w1 q1 n1 hm6
                 intro o7
                 show RdM.All _ (match fltsFrom .f64 o7.c with | some (m, g) => _ | none => _) _
                 split
                 · rename_i m7 g1 hm7
                   intro o8
                   show RdM.All _ (match serOf o8.c with | some (cl2, cw2, cv2, k2, x2, y2, z2, w2, q2, n2) => _ | none => _) _
                   split
                   · rename_i cl2 cw2 cv2 k2 x2 y2 z2 w2 q2 n2 hm8
                     intro o9
                     show RdM.All _ (match fltsFrom .f64 o9.c with | some (m, g) => _ | none => _) _
                     split
                     · rename_i m9 g2 hm9
                       intro ho
                       replace ho : m2 = 2 * n ∧ m5 = 2 * n0 ∧ m7 = 2 * n1 ∧ m9 = 2 * n2 ∧ ((n ≤ 1000000 ∧ SmF g (2 * n)) ∧ (W1 x ∧ W1 y ∧ W1 z ∧ W1 w)) ∧ ((n0 ≤ 1000000 ∧ SmF g0 (2 * n0)) ∧ (W1 x0 ∧ W1 y0 ∧ W1 z0 ∧ W1 w0)) ∧ ((n1 ≤ 1000000 ∧ SmF g1 (2 * n1)) ∧ (W1 x1 ∧ W1 y1 ∧ W1 z1 ∧ W1 w1)) ∧ ((n2 ≤ 1000000 ∧ SmF g2 (2 * n2)) ∧ (W1 x2 ∧ W1 y2 ∧ W1 z2 ∧ W1 w2)) ∧ W1 px ∧ W1 py := ho
                       obtain ⟨hsz2, hsz5, hsz7, hsz9, ho⟩ := ho
                       subst hsz2
                       subst hsz5
                       subst hsz7
                       subst hsz9
                       refine ⟨?_, _, _, (vc_pcq3 cl cw cv k x y z w q n s h e0 e1 e2 cl0 cw0 cv0 k0 x0 y0 z0 w0 q0 n0 cl1 cw1 cv1 k1 x1 y1 z1 w1 q1 n1 cl2 cw2 cv2 k2 x2 y2 z2 w2 q2 n2 px py g g0 g1 g2).mpr ?_⟩
                       · refine okFlag_mk rfl ⟨?_, ⟨trivial, po3_spec hm0 (by simp [sgSig, fsts, nth, sameN_self]) (by simp [sgSig, fsts, nth, sameN_self]), ⟨trivial, serOf_spec hm1 (by simp [sgSig, fsts, nth, sameN_self]), ⟨trivial, (contR_flts hm2).1, ⟨trivial, ho3_spec hm3 (by simp [sgSig, fsts, nth, sameN_self]) (by simp [sgSig, fsts, nth, sameN_self]) (by simp [sgSig, fsts, nth, sameN_self]), ⟨trivial, serOf_spec hm4 (by simp [sgSig, fsts, nth, sameN_self]), ⟨trivial, (contR_flts hm5).1, ⟨trivial, serOf_spec hm6 (by simp [sgSig, fsts, nth, sameN_self]), ⟨trivial, (contR_flts hm7).1, ⟨trivial, serOf_spec hm8 (by simp [sgSig, fsts, nth, sameN_self]), ⟨trivial, (contR_flts hm9).1, trivial⟩⟩⟩⟩⟩⟩⟩⟩⟩⟩⟩
                         simp [eqvRL, eqvR, fkEq_self, sgSig, fsts, nth, sameN_self]
                       · simp only [show ∀ g n cl x y z w px py al, (rcp g n (nsg cl n (wz g)) x y z w px py al).1 = rP g n cl x y z w px py al from fun _ _ _ _ _ _ _ _ _ _ => rfl]
                         generalize rP g n cl x y z w px py true = r
                         generalize rP g0 n0 cl0 x0 y0 z0 w0 px py false = r0
                         generalize rP g1 n1 cl1 x1 y1 z1 w1 px py false = r1
                         generalize rP g2 n2 cl2 x2 y2 z2 w2 px py false = r2
                         cases r <;> cases r0 <;> cases r1 <;> cases r2 <;> simp [ho]
                     · trivial
                   · trivial
                 · trivial
               · trivial
             · trivial
           · trivial
         · trivial
       · trivial
     · trivial
   · trivial
 · trivial
noncomputable def Gpiq3 : Ctx := ⟨⟨tys, []⟩, [(171, conR pcq3C)]⟩
theorem gpiq3 : CtxOk Tryz.prog Gpiq3 := ⟨⟨tysOk, FlatsOk.nil⟩, GamOk.cons pcq3 GamOk.nil, by kernel_rfl⟩
noncomputable def piq3C : List SV → RdM
 | [.ptr P 0, .agg [.flt .f64 px, .flt .f64 py]] => .read P fun o0 => (match po3 o0.c with
   | some (s, h) => .read s fun o1 => (match serOf o1.c with
   | some (cl, cw, cv, k, x, y, z, w, q, n) => .read q fun o2 => (match fltsFrom .f64 o2.c with
   | some (m2, g) => .read h fun o3 => (match ho3 o3.c with
   | some (e0, e1, e2) => .read e0 fun o4 => (match serOf o4.c with
   | some (cl0, cw0, cv0, k0, x0, y0, z0, w0, q0, n0) => .read q0 fun o5 => (match fltsFrom .f64 o5.c with
   | some (m5, g0) => .read e1 fun o6 => (match serOf o6.c with
   | some (cl1, cw1, cv1, k1, x1, y1, z1, w1, q1, n1) => .read q1 fun o7 => (match fltsFrom .f64 o7.c with
   | some (m7, g1) => .read e2 fun o8 => (match serOf o8.c with
   | some (cl2, cw2, cv2, k2, x2, y2, z2, w2, q2, n2) => .read q2 fun o9 => (match fltsFrom .f64 o9.c with
   | some (m9, g2) => .ret ⟨[.ptr 0 0, .agg [.flt .f64 px, .flt .f64 py]], [(0, ⟨false, 137, .cells [.ifc 157 (.ptr 1 0), .slcc 3 3], 0⟩), (1, ⟨false, 150, serC cl cw cv k x y z w 2 n, 0⟩), (2, ⟨false, 100, .flts .f64 m2 g, 0⟩), (3, ⟨false, 106, .cells [.ifc 157 (.ptr 4 0), .ifc 157 (.ptr 6 0), .ifc 157 (.ptr 8 0)], 0⟩), (4, ⟨false, 150, serC cl0 cw0 cv0 k0 x0 y0 z0 w0 5 n0, 0⟩), (5, ⟨false, 100, .flts .f64 m5 g0, 0⟩), (6, ⟨false, 150, serC cl1 cw1 cv1 k1 x1 y1 z1 w1 7 n1, 0⟩), (7, ⟨false, 100, .flts .f64 m7 g1, 0⟩), (8, ⟨false, 150, serC cl2 cw2 cv2 k2 x2 y2 z2 w2 9 n2, 0⟩), (9, ⟨false, 100, .flts .f64 m9 g2, 0⟩)], .bool (rP g n cl x y z w px py true && !(rP g0 n0 cl0 x0 y0 z0 w0 px py false) && !(rP g1 n1 cl1 x1 y1 z1 w1 px py false) && !(rP g2 n2 cl2 x2 y2 z2 w2 px py false)), [], [], some (m2 = 2 * n ∧ m5 = 2 * n0 ∧ m7 = 2 * n1 ∧ m9 = 2 * n2 ∧ ((n ≤ 1000000 ∧ SmF g (2 * n)) ∧ (W1 x ∧ W1 y ∧ W1 z ∧ W1 w)) ∧ ((n0 ≤ 1000000 ∧ SmF g0 (2 * n0)) ∧ (W1 x0 ∧ W1 y0 ∧ W1 z0 ∧ W1 w0)) ∧ ((n1 ≤ 1000000 ∧ SmF g1 (2 * n1)) ∧ (W1 x1 ∧ W1 y1 ∧ W1 z1 ∧ W1 w1)) ∧ ((n2 ≤ 1000000 ∧ SmF g2 (2 * n2)) ∧ (W1 x2 ∧ W1 y2 ∧ W1 z2 ∧ W1 w2)) ∧ W1 px ∧ W1 py)⟩
   | none => .fail)
   | none => .fail)
   | none => .fail)
   | none => .fail)
   | none => .fail)
   | none => .fail)
   | none => .fail)
   | none => .fail)
   | none => .fail)
   | none => .fail)
 | _ => .fail
theorem vc_piq3 (cl cw cv : Bool) (k : Int) (x y z w : Nat) (_ : Nm) (n : Nat) (_ _ : Nm) (_ _ _ : Nm) (cl0 cw0 cv0 : Bool) (k0 : Int) (x0 y0 z0 w0 : Nat) (_ : Nm) (n0 : Nat) (cl1 cw1 cv1 : Bool) (k1 : Int) (x1 y1 z1 w1 : Nat) (_ : Nm) (n1 : Nat) (cl2 cw2 cv2 : Bool) (k2 : Int) (x2 y2 z2 w2 : Nat) (_ : Nm) (n2 : Nat) (px py : Nat)  (g : Nat → Nat) (g0 : Nat → Nat) (g1 : Nat → Nat) (g2 : Nat → Nat) : runA Gpiq3 10 [] [] (codeOf Tryz.f168) (init Tryz.f168.ntmps [.ptr 0 0, .agg [.flt .f64 px, .flt .f64 py]] [(0, ⟨false, 137, .cells [.ifc 157 (.ptr 1 0), .slcc 3 3], 0⟩), (1, ⟨false, 150, serC cl cw cv k x y z w 2 n, 0⟩), (2, ⟨false, 100, .flts .f64 (2 * n) g, 0⟩), (3, ⟨false, 106, .cells [.ifc 157 (.ptr 4 0), .ifc 157 (.ptr 6 0), .ifc 157 (.ptr 8 0)], 0⟩), (4, ⟨false, 150, serC cl0 cw0 cv0 k0 x0 y0 z0 w0 5 n0, 0⟩), (5, ⟨false, 100, .flts .f64 (2 * n0) g0, 0⟩), (6, ⟨false, 150, serC cl1 cw1 cv1 k1 x1 y1 z1 w1 7 n1, 0⟩), (7, ⟨false, 100, .flts .f64 (2 * n1) g1, 0⟩), (8, ⟨false, 150, serC cl2 cw2 cv2 k2 x2 y2 z2 w2 9 n2, 0⟩), (9, ⟨false, 100, .flts .f64 (2 * n2) g2, 0⟩)] 10) (endK Gpiq3.E.T Tryz.f168.results.toList fun S v => postP 10 ⟨[.ptr 0 0, .agg [.flt .f64 px, .flt .f64 py]], [(0, ⟨false, 137, .cells [.ifc 157 (.ptr 1 0), .slcc 3 3], 0⟩), (1, ⟨false, 150, serC cl cw cv k x y z w 2 n, 0⟩), (2, ⟨false, 100, .flts .f64 (2 * n) g, 0⟩), (3, ⟨false, 106, .cells [.ifc 157 (.ptr 4 0), .ifc 157 (.ptr 6 0), .ifc 157 (.ptr 8 0)], 0⟩), (4, ⟨false, 150, serC cl0 cw0 cv0 k0 x0 y0 z0 w0 5 n0, 0⟩), (5, ⟨false, 100, .flts .f64 (2 * n0) g0, 0⟩), (6, ⟨false, 150, serC cl1 cw1 cv1 k1 x1 y1 z1 w1 7 n1, 0⟩), (7, ⟨false, 100, .flts .f64 (2 * n1) g1, 0⟩), (8, ⟨false, 150, serC cl2 cw2 cv2 k2 x2 y2 z2 w2 9 n2, 0⟩), (9, ⟨false, 100, .flts .f64 (2 * n2) g2, 0⟩)], .bool (rP g n cl x y z w px py true && !(rP g0 n0 cl0 x0 y0 z0 w0 px py false) && !(rP g1 n1 cl1 x1 y1 z1 w1 px py false) && !(rP g2 n2 cl2 x2 y2 z2 w2 px py false)), [], [], some (2 * n = 2 * n ∧ 2 * n0 = 2 * n0 ∧ 2 * n1 = 2 * n1 ∧ 2 * n2 = 2 * n2 ∧ ((n ≤ 1000000 ∧ SmF g (2 * n)) ∧ (W1 x ∧ W1 y ∧ W1 z ∧ W1 w)) ∧ ((n0 ≤ 1000000 ∧ SmF g0 (2 * n0)) ∧ (W1 x0 ∧ W1 y0 ∧ W1 z0 ∧ W1 w0)) ∧ ((n1 ≤ 1000000 ∧ SmF g1 (2 * n1)) ∧ (W1 x1 ∧ W1 y1 ∧ W1 z1 ∧ W1 w1)) ∧ ((n2 ≤ 1000000 ∧ SmF g2 (2 * n2)) ∧ (W1 x2 ∧ W1 y2 ∧ W1 z2 ∧ W1 w2)) ∧ W1 px ∧ W1 py)⟩ S v) = (
(2 * n = 2 * n ∧ 2 * n0 = 2 * n0 ∧ 2 * n1 = 2 * n1 ∧ 2 * n2 = 2 * n2 ∧ ((n ≤ 1000000 ∧ SmF g (2 * n)) ∧ W1 x ∧ W1 y
∧ W1 z ∧ W1 w) ∧ ((n0 ≤ 1000000 ∧ SmF g0 (2 * n0)) ∧ W1 x0 ∧ W1 y0 ∧ W1 z0 ∧ W1 w0) ∧ ((n1 ≤ 1000000
∧ SmF g1 (2 * n1)) ∧ W1 x1 ∧ W1 y1 ∧ W1 z1 ∧ W1 w1) ∧ ((n2 ≤ 1000000 ∧ SmF g2 (2 * n2)) ∧ W1 x2 ∧
 W1 y2 ∧ W1 z2 ∧ W1 w2) ∧ W1 px ∧ W1 py) ∧ (rP g n cl x y z w px py true && !rP g0 n0 cl0 x0 y0 z0 w0 px py false &&
!rP g1 n1 cl1 x1 y1 z1 w1 px py false && !rP g2 n2 cl2 x2 y2 z2 w2 px py false) = (rP g n cl x y z w px py true && !rP g0 n0 cl0 x0 y0 z0 w0 px py false && !rP
 g1 n1 cl1 x1 y1 z1 w1 px py false && !rP g2 n2 cl2 x2 y2 z2 w2 px py false) ∧ True) := by kernel_rfl
theorem piq3 : ConOk Tryz.prog 168 (conR piq3C) := by
 refine con_of_vc gpiq3 Tryz.func168 rfl (by kernel_rfl) fun args => ?_
 unfold piq3C
 split
 · rename_i P px py
   intro o0
   show RdM.All _ (match po3 o0.c with | some (s, h) => _ | none => _) _
   split
   · rename_i s h hm0
     intro o1
     show RdM.All _ (match serOf o1.c with | some (cl, cw, cv, k, x, y, z, w, q, n) => _ | none => _) _
     split
     · rename_i cl cw cv k x y z w q n hm1
       intro o2
       show RdM.All _ (match fltsFrom .f64 o2.c with | some (m, g) => _ | none => _) _
       split
       · rename_i m2 g hm2
         intro o3
         show RdM.All _ (match ho3 o3.c with | some (e0, e1, e2) => _ | none => _) _
         split
         · rename_i e0 e1 e2 hm3
           intro o4
           show RdM.All _ (match serOf o4.c with | some (cl0, cw0, cv0, k0, x0, y0, z0, w0, q0, n0) => _ | none => _) _
           split
           · rename_i cl0 cw0 cv0 k0 x0 y0 z0 w0 q0 n0 hm4
             intro o5
             show RdM.All _ (match fltsFrom .f64 o5.c with | some (m, g) => _ | none => _) _
             split
             · rename_i m5 g0 hm5
               intro o6
               show RdM.All _ (match serOf o6.c with | some (cl1, cw1, cv1, k1, x1, y1, z1, w1, q1, n1) => _ | none => _) _
               split
               · rename_i cl1 cw1 cv1 k1 x1 y1 z1 w1 q1 n1 hm6
                 intro o7
                 show RdM.All _ (match fltsFrom .f64 o7.c with | some (m, g) => _ | none => _) _
                 split
                 · rename_i m7 g1 hm7
                   intro o8
                   show RdM.All _ (match serOf o8.c with | some (cl2, cw2, cv2, k2, x2, y2, z2, w2, q2, n2) => _ | none => _) _
                   split
                   · rename_i cl2 cw2 cv2 k2 x2 y2 z2 w2 q2 n2 hm8
                     intro o9
                     show RdM.All _ (match fltsFrom .f64 o9.c with | some (m, g) => _ | none => _) _
                     split
                     · rename_i m9 g2 hm9
                       intro ho
                       replace ho : m2 = 2 * n ∧ m5 = 2 * n0 ∧ m7 = 2 * n1 ∧ m9 = 2 * n2 ∧ ((n ≤ 1000000 ∧ SmF g (2 * n)) ∧ (W1 x ∧ W1 y ∧ W1 z ∧ W1 w)) ∧ ((n0 ≤ 1000000 ∧ SmF g0 (2 * n0)) ∧ (W1 x0 ∧ W1 y0 ∧ W1 z0 ∧ W1 w0)) ∧ ((n1 ≤ 1000000 ∧ SmF g1 (2 * n1)) ∧ (W1 x1 ∧ W1 y1 ∧ W1 z1 ∧ W1 w1)) ∧ ((n2 ≤ 1000000 ∧ SmF g2 (2 * n2)) ∧ (W1 x2 ∧ W1 y2 ∧ W1 z2 ∧ W1 w2)) ∧ W1 px ∧ W1 py := ho
                       obtain ⟨hsz2, hsz5, hsz7, hsz9, ho⟩ := ho
                       subst hsz2
                       subst hsz5
                       subst hsz7
                       subst hsz9
                       refine ⟨?_, _, _, (vc_piq3 cl cw cv k x y z w q n s h e0 e1 e2 cl0 cw0 cv0 k0 x0 y0 z0 w0 q0 n0 cl1 cw1 cv1 k1 x1 y1 z1 w1 q1 n1 cl2 cw2 cv2 k2 x2 y2 z2 w2 q2 n2 px py g g0 g1 g2).mpr ?_⟩
                       · refine okFlag_mk rfl ⟨?_, ⟨trivial, po3_spec hm0 (by simp [sgSig, fsts, nth, sameN_self]) (by simp [sgSig, fsts, nth, sameN_self]), ⟨trivial, serOf_spec hm1 (by simp [sgSig, fsts, nth, sameN_self]), ⟨trivial, (contR_flts hm2).1, ⟨trivial, ho3_spec hm3 (by simp [sgSig, fsts, nth, sameN_self]) (by simp [sgSig, fsts, nth, sameN_self]) (by simp [sgSig, fsts, nth, sameN_self]), ⟨trivial, serOf_spec hm4 (by simp [sgSig, fsts, nth, sameN_self]), ⟨trivial, (contR_flts hm5).1, ⟨trivial, serOf_spec hm6 (by simp [sgSig, fsts, nth, sameN_self]), ⟨trivial, (contR_flts hm7).1, ⟨trivial, serOf_spec hm8 (by simp [sgSig, fsts, nth, sameN_self]), ⟨trivial, (contR_flts hm9).1, trivial⟩⟩⟩⟩⟩⟩⟩⟩⟩⟩⟩
                         simp [eqvRL, eqvR, fkEq_self, sgSig, fsts, nth, sameN_self]
                       · generalize rP g n cl x y z w px py true = r
                         generalize rP g0 n0 cl0 x0 y0 z0 w0 px py false = r0
                         generalize rP g1 n1 cl1 x1 y1 z1 w1 px py false = r1
                         generalize rP g2 n2 cl2 x2 y2 z2 w2 px py false = r2
                         cases r <;> cases r0 <;> cases r1 <;> cases r2 <;> simp [ho]
                     · trivial
                   · trivial
                 · trivial
               · trivial
             · trivial
           · trivial
         · trivial
       · trivial
     · trivial
   · trivial
 · trivial
noncomputable def G39T3 : Ctx := ⟨⟨tys, []⟩, [(64, conR optsC), (63, conR shP3C), (72, conR cornerC), (75, pureCon ptF), (171, conR pcq3C), (168, conR piq3C)]⟩
theorem g39T3 : CtxOk Tryz.prog G39T3 := ⟨⟨tysOk, FlatsOk.nil⟩, GamOk.cons opts (GamOk.cons shP3 (GamOk.cons corner (GamOk.cons (.pure pt) (GamOk.cons pcq3 (GamOk.cons piq3 GamOk.nil))))), by kernel_rfl⟩
noncomputable def asPt3C : List SV → RdM
 | [.agg [.int .i64 3, .slcc n len, .slcc h 3], .agg [.int .i64 0, .slcc m 1, .nils], .int .i64 0, .int .i64 0] => .read n fun o0 => (match intsFrom .i64 o0.c with
   | some (m0, g) => .read h fun o1 => (match hol3 o1.c with
   | some (q0, l0, q1, l1, q2, l2) => .read q0 fun o2 => (match intsFrom .i64 o2.c with
   | some (m2, g0) => .read q1 fun o3 => (match intsFrom .i64 o3.c with
   | some (m3, g1) => .read q2 fun o4 => (match intsFrom .i64 o4.c with
   | some (m4, g2) => .read m fun o5 => (match intsFrom .i64 o5.c with
   | some (m5, gl) => .ret ⟨[.agg [.int .i64 3, .slcc 0 len, .slcc 1 3], .agg [.int .i64 0, .slcc 5 1, .nils], .int .i64 0, .int .i64 0], [(0, ⟨false, 23, .ints .i64 m0 g, 0⟩), (1, ⟨false, 25, .cells [.slcc 2 l0, .slcc 3 l1, .slcc 4 l2], 0⟩), (2, ⟨false, 23, .ints .i64 m2 g0, 0⟩), (3, ⟨false, 23, .ints .i64 m3 g1, 0⟩), (4, ⟨false, 23, .ints .i64 m4 g2, 0⟩), (5, ⟨false, 23, .ints .i64 m5 gl, 0⟩)], .tup [.bool (vPt g len (gl 0) (gl 1) && !(vPf g0 l0 (gl 0) (gl 1)) && !(vPf g1 l1 (gl 0) (gl 1)) && !(vPf g2 l2 (gl 0) (gl 1))), .bool (vPt g len (gl 0) (gl 1) && !(vPf g0 l0 (gl 0) (gl 1)) && !(vPf g1 l1 (gl 0) (gl 1)) && !(vPf g2 l2 (gl 0) (gl 1)))], [], [], some (m0 = 2 * len ∧ m2 = 2 * l0 ∧ m3 = 2 * l1 ∧ m4 = 2 * l2 ∧ m5 = 2 ∧ PO g len ∧ PO g0 l0 ∧ PO g1 l1 ∧ PO g2 l2 ∧ small (gl 0) ∧ small (gl 1))⟩
   | none => .fail)
   | none => .fail)
   | none => .fail)
   | none => .fail)
   | none => .fail)
   | none => .fail)
 | _ => .fail
theorem vc_asPt3 (len : Nat) (l0 l1 l2 : Nat) (_ _ _ : Nm)  (g : Nat → Int) (g0 : Nat → Int) (g1 : Nat → Int) (g2 : Nat → Int) (gl : Nat → Int) : runA G39T3 6 [] [] (codeOf Tryz.f39) (init Tryz.f39.ntmps [.agg [.int .i64 3, .slcc 0 len, .slcc 1 3], .agg [.int .i64 0, .slcc 5 1, .nils], .int .i64 0, .int .i64 0] [(0, ⟨false, 23, .ints .i64 (2 * len) g, 0⟩), (1, ⟨false, 25, .cells [.slcc 2 l0, .slcc 3 l1, .slcc 4 l2], 0⟩), (2, ⟨false, 23, .ints .i64 (2 * l0) g0, 0⟩), (3, ⟨false, 23, .ints .i64 (2 * l1) g1, 0⟩), (4, ⟨false, 23, .ints .i64 (2 * l2) g2, 0⟩), (5, ⟨false, 23, .ints .i64 (2) gl, 0⟩)] 6) (endK G39T3.E.T Tryz.f39.results.toList fun S v => postP 6 ⟨[.agg [.int .i64 3, .slcc 0 len, .slcc 1 3], .agg [.int .i64 0, .slcc 5 1, .nils], .int .i64 0, .int .i64 0], [(0, ⟨false, 23, .ints .i64 (2 * len) g, 0⟩), (1, ⟨false, 25, .cells [.slcc 2 l0, .slcc 3 l1, .slcc 4 l2], 0⟩), (2, ⟨false, 23, .ints .i64 (2 * l0) g0, 0⟩), (3, ⟨false, 23, .ints .i64 (2 * l1) g1, 0⟩), (4, ⟨false, 23, .ints .i64 (2 * l2) g2, 0⟩), (5, ⟨false, 23, .ints .i64 (2) gl, 0⟩)], .tup [.bool (vPt g len (gl 0) (gl 1) && !(vPf g0 l0 (gl 0) (gl 1)) && !(vPf g1 l1 (gl 0) (gl 1)) && !(vPf g2 l2 (gl 0) (gl 1))), .bool (vPt g len (gl 0) (gl 1) && !(vPf g0 l0 (gl 0) (gl 1)) && !(vPf g1 l1 (gl 0) (gl 1)) && !(vPf g2 l2 (gl 0) (gl 1)))], [], [], some (2 * len = 2 * len ∧ 2 * l0 = 2 * l0 ∧ 2 * l1 = 2 * l1 ∧ 2 * l2 = 2 * l2 ∧ 2 = 2 ∧ PO g len ∧ PO g0 l0 ∧ PO g1 l1 ∧ PO g2 l2 ∧ small (gl 0) ∧ small (gl 1))⟩ S v) = (
 True ∧ (2 * len = 2 * len ∧ 2 * l0 = 2 * l0 ∧ 2 * l1 = 2 * l1 ∧ 2 * l2 = 2 * l2 ∧ (0 : Int) = 0 ∧ (len ≤ 1000000 ∧ (ppBig len true = true →
 ppOk (fI g) len)) ∧ (l0 ≤ 1000000 ∧ (ppBig l0 true = true → ppOk (fI g0) l0)) ∧ (l1 ≤ 1000000 ∧ (ppBig l1 true = true →
 ppOk (fI g1) l1)) ∧ l2 ≤ 1000000 ∧ (ppBig l2 true = true → ppOk (fI g2) l2)) ∧ (false = true → False) ∧ (false = false → (false = true → False) ∧ (false
= false → (false = true → False) ∧ (false = false → (2 = 2 ∧ (0 : Int) ≤ 0) ∧ (2 * len = 2 * len ∧ 2 * l0 = 2 * l0 ∧ 2 * l1 = 2 * l1 ∧ 2 * l2 = 2 * l2 ∧ ((len ≤
1000000 ∧ SmF (fI g) (2 * len)) ∧ W1 (pick (ppBig len true) (rlo (fI g) 0 len)) ∧
 W1 (pick (ppBig len true) (rlo (fI g) 1 len)) ∧ W1 (pick (ppBig len true) (rhi
(fI g) 0 len)) ∧ W1 (pick (ppBig len true) (rhi (fI g) 1 len))) ∧ ((l0 ≤ 1000000 ∧ SmF
(fI g0) (2 * l0)) ∧ W1 (pick (ppBig l0 true) (rlo (fI g0) 0 l0)) ∧ W1 (pick
(ppBig l0 true) (rlo (fI g0) 1 l0)) ∧ W1 (pick (ppBig l0 true) (rhi (fI g0) 0 l0)) ∧
 W1 (pick (ppBig l0 true) (rhi (fI g0) 1 l0))) ∧ ((l1 ≤ 1000000 ∧ SmF (fI g1) (2 * l1)) ∧
 W1 (pick (ppBig l1 true) (rlo (fI g1) 0 l1)) ∧ W1 (pick (ppBig l1 true) (rlo
(fI g1) 1 l1)) ∧ W1 (pick (ppBig l1 true) (rhi (fI g1) 0 l1)) ∧ W1 (pick
(ppBig l1 true) (rhi (fI g1) 1 l1))) ∧ ((l2 ≤ 1000000 ∧ SmF (fI g2) (2 * l2)) ∧ W1 (pick
(ppBig l2 true) (rlo (fI g2) 0 l2)) ∧ W1 (pick (ppBig l2 true) (rlo (fI g2) 1 l2)) ∧
 W1 (pick (ppBig l2 true) (rhi (fI g2) 0 l2)) ∧ W1 (pick (ppBig l2 true) (rhi
(fI g2) 1 l2))) ∧ W1 (ofI .f64 (crn gl 1 (0 : Int) 0)) ∧ W1 (ofI .f64 (crn gl 1 (0 : Int) 1))) ∧ (2
* len = 2 * len ∧ 2 * l0 = 2 * l0 ∧ 2 * l1 = 2 * l1 ∧ 2 * l2 = 2 * l2 ∧ ((len ≤ 1000000 ∧ SmF (fI g) (2 * len)) ∧ W1
(pick (ppBig len true) (rlo (fI g) 0 len)) ∧ W1 (pick (ppBig len true) (rlo (fI
 g) 1 len)) ∧ W1 (pick (ppBig len true) (rhi (fI g) 0 len)) ∧ W1 (pick (ppBig len true)
(rhi (fI g) 1 len))) ∧ ((l0 ≤ 1000000 ∧ SmF (fI g0) (2 * l0)) ∧ W1 (pick (ppBig l0 true)
(rlo (fI g0) 0 l0)) ∧ W1 (pick (ppBig l0 true) (rlo (fI g0) 1 l0)) ∧ W1
(pick (ppBig l0 true) (rhi (fI g0) 0 l0)) ∧ W1 (pick (ppBig l0 true) (rhi (fI
 g0) 1 l0))) ∧ ((l1 ≤ 1000000 ∧ SmF (fI g1) (2 * l1)) ∧ W1 (pick (ppBig l1 true) (rlo (fI g1) 0 l1)) ∧ W1 (pick (ppBig l1 true) (rlo (fI g1) 1 l1)) ∧ W1 (pick (ppBig l1 true)
(rhi (fI g1) 0 l1)) ∧ W1 (pick (ppBig l1 true) (rhi (fI g1) 1 l1))) ∧ ((l2 ≤ 1000000 ∧
 SmF (fI g2) (2 * l2)) ∧ W1 (pick (ppBig l2 true) (rlo (fI g2) 0 l2)) ∧ W1
(pick (ppBig l2 true) (rlo (fI g2) 1 l2)) ∧ W1 (pick (ppBig l2 true) (rhi (fI
 g2) 0 l2)) ∧ W1 (pick (ppBig l2 true) (rhi (fI g2) 1 l2))) ∧ W1 (ofI .f64 (crn gl 1 (0 : Int)
0)) ∧ W1 (ofI .f64 (crn gl 1 (0 : Int) 1))) ∧ true = true ∧ ((rP (fI g) len true (pick (ppBig len true)
(rlo (fI g) 0 len)) (pick (ppBig len true) (rlo (fI g) 1 len)) (pick (ppBig len true)
(rhi (fI g) 0 len)) (pick (ppBig len true) (rhi (fI g) 1 len)) (ofI .f64 (crn gl 1 (0 : Int)
0)) (ofI .f64 (crn gl 1 (0 : Int) 1)) true && !rP (fI g0) l0 true (pick (ppBig l0 true) (rlo
(fI g0) 0 l0)) (pick (ppBig l0 true) (rlo (fI g0) 1 l0)) (pick (ppBig l0 true) (rhi
(fI g0) 0 l0)) (pick (ppBig l0 true) (rhi (fI g0) 1 l0)) (ofI .f64 (crn gl 1 (0 : Int) 0)) (ofI
.f64 (crn gl 1 (0 : Int) 1)) false && !rP (fI g1) l1 true (pick (ppBig l1 true) (rlo (fI g1) 0 l1))
(pick (ppBig l1 true) (rlo (fI g1) 1 l1)) (pick (ppBig l1 true) (rhi (fI g1) 0 l1))
(pick (ppBig l1 true) (rhi (fI g1) 1 l1)) (ofI .f64 (crn gl 1 (0 : Int) 0)) (ofI .f64 (crn gl 1 (0
: Int) 1)) false && !rP (fI g2) l2 true (pick (ppBig l2 true) (rlo (fI g2) 0 l2)) (pick
(ppBig l2 true) (rlo (fI g2) 1 l2)) (pick (ppBig l2 true) (rhi (fI g2) 0 l2)) (pick
(ppBig l2 true) (rhi (fI g2) 1 l2)) (ofI .f64 (crn gl 1 (0 : Int) 0)) (ofI .f64 (crn gl 1 (0 : Int) 1))
 false) = (vPt g len (gl 0) (gl 1) && !vPf g0 l0 (gl 0) (gl 1) && !vPf g1 l1 (gl 0) (gl 1) && !vPf g2 l2 (gl 0) (gl 1)) ∧ (rP (fI g) len true (pick (ppBig len true) (rlo (fI g) 0 len)) (pick (ppBig len true)
(rlo (fI g) 1 len)) (pick (ppBig len true) (rhi (fI g) 0 len)) (pick (ppBig len true)
(rhi (fI g) 1 len)) (ofI .f64 (crn gl 1 (0 : Int) 0)) (ofI .f64 (crn gl 1 (0 : Int) 1)) true && !rP
(fI g0) l0 true (pick (ppBig l0 true) (rlo (fI g0) 0 l0)) (pick (ppBig l0 true) (rlo
(fI g0) 1 l0)) (pick (ppBig l0 true) (rhi (fI g0) 0 l0)) (pick (ppBig l0 true) (rhi
(fI g0) 1 l0)) (ofI .f64 (crn gl 1 (0 : Int) 0)) (ofI .f64 (crn gl 1 (0 : Int) 1)) false && !rP (fI g1) l1
 true (pick (ppBig l1 true) (rlo (fI g1) 0 l1)) (pick (ppBig l1 true) (rlo (fI g1) 1 l1))
(pick (ppBig l1 true) (rhi (fI g1) 0 l1)) (pick (ppBig l1 true) (rhi (fI g1) 1 l1))
(ofI .f64 (crn gl 1 (0 : Int) 0)) (ofI .f64 (crn gl 1 (0 : Int) 1)) false && !rP (fI g2) l2 true (pick
(ppBig l2 true) (rlo (fI g2) 0 l2)) (pick (ppBig l2 true) (rlo (fI g2) 1 l2)) (pick
(ppBig l2 true) (rhi (fI g2) 0 l2)) (pick (ppBig l2 true) (rhi (fI g2) 1 l2)) (ofI .f64
(crn gl 1 (0 : Int) 0)) (ofI .f64 (crn gl 1 (0 : Int) 1)) false) = (vPt g len (gl 0) (gl 1) && !vPf g0 l0 (gl 0) (gl
1) && !vPf g1 l1 (gl 0) (gl 1) && !vPf g2 l2 (gl 0) (gl 1)) ∧ True) ∧ True)))) := by kernel_rfl
theorem asPt3 : ConOk Tryz.prog 39 (conR asPt3C) := by
 refine con_of_vc g39T3 Tryz.func39 rfl (by kernel_rfl) fun args => ?_
 unfold asPt3C
 split
 · rename_i n len h m
   intro o0
   show RdM.All _ (match intsFrom .i64 o0.c with | some (m, g) => _ | none => _) _
   split
   · rename_i m0 g hm0
     intro o1
     show RdM.All _ (match hol3 o1.c with | some (q0, l0, q1, l1, q2, l2) => _ | none => _) _
     split
     · rename_i q0 l0 q1 l1 q2 l2 hm1
       intro o2
       show RdM.All _ (match intsFrom .i64 o2.c with | some (m, g) => _ | none => _) _
       split
       · rename_i m2 g0 hm2
         intro o3
         show RdM.All _ (match intsFrom .i64 o3.c with | some (m, g) => _ | none => _) _
         split
         · rename_i m3 g1 hm3
           intro o4
           show RdM.All _ (match intsFrom .i64 o4.c with | some (m, g) => _ | none => _) _
           split
           · rename_i m4 g2 hm4
             intro o5
             show RdM.All _ (match intsFrom .i64 o5.c with | some (m, g) => _ | none => _) _
             split
             · rename_i m5 gl hm5
               intro ho
               replace ho : m0 = 2 * len ∧ m2 = 2 * l0 ∧ m3 = 2 * l1 ∧ m4 = 2 * l2 ∧ m5 = 2 ∧ PO g len ∧ PO g0 l0 ∧ PO g1 l1 ∧ PO g2 l2 ∧ small (gl 0) ∧ small (gl 1) := ho
               obtain ⟨hsz0, hsz2, hsz3, hsz4, hsz5, ho⟩ := ho
               subst hsz0
               subst hsz2
               subst hsz3
               subst hsz4
               subst hsz5
               refine ⟨?_, _, _, (vc_asPt3 len l0 l1 l2 q0 q1 q2 g g0 g1 g2 gl).mpr ?_⟩
               · refine okFlag_mk rfl ⟨?_, ⟨trivial, (contR_ints hm0).1, ⟨trivial, hol3_spec hm1 (by simp [sgSig, fsts, nth, sameN_self]) (by simp [sgSig, fsts, nth, sameN_self]) (by simp [sgSig, fsts, nth, sameN_self]), ⟨trivial, (contR_ints hm2).1, ⟨trivial, (contR_ints hm3).1, ⟨trivial, (contR_ints hm4).1, ⟨trivial, (contR_ints hm5).1, trivial⟩⟩⟩⟩⟩⟩⟩
                 simp [eqvRL, eqvR, kEq_self, sgSig, fsts, nth, sameN_self]
               · obtain ⟨h1, a0, a1, a2, h2⟩ := ho
                 have c0 : crn gl 1 0 0 = gl 0 := rfl
                 have c1 : crn gl 1 0 1 = gl 1 := rfl
                 simp only [true_and, and_true, eq_self, true_implies, c0, c1, Bool.false_eq_true, false_implies]
                 exact ⟨⟨⟨h1.len, fun hb => h1.ppOk hb⟩, ⟨a0.len, fun hb => a0.ppOk hb⟩, ⟨a1.len, fun hb => a1.ppOk hb⟩, ⟨a2.len, fun hb => a2.ppOk hb⟩⟩, by decide, ⟨h1.ob, a0.ob, a1.ob, a2.ob, (w1_fI h2.1).1, (w1_fI h2.2).1⟩, ⟨h1.ob, a0.ob, a1.ob, a2.ob, (w1_fI h2.1).1, (w1_fI h2.2).1⟩, rfl, rfl⟩
             · trivial
           · trivial
         · trivial
       · trivial
     · trivial
   · trivial
 · trivial
def po4 : Cont → Option (Nm × Nm)
 | .cells [.ifc 157 (.ptr s 0), .slcc h 4] => some (s, h)
 | _ => none
theorem po4_spec {σ : Sig} {c : Cont} {p q h h' : Nm} (hc : po4 c = some (p, h)) (hs : sameN (σ q) p) (hh : sameN (σ h') h) : contR σ c (.cells [.ifc 157 (.ptr q 0), .slcc h' 4]) := by
 unfold po4 at hc
 split at hc
 · simp only [Option.some.injEq, Prod.mk.injEq] at hc
   obtain ⟨rfl, rfl⟩ := hc
   show eqvRL σ _ _
   simp [eqvRL, eqvR, hs, hh]
 · cases hc
def ho4 : Cont → Option (Nm × Nm × Nm × Nm)
 | .cells [.ifc 157 (.ptr e0 0), .ifc 157 (.ptr e1 0), .ifc 157 (.ptr e2 0), .ifc 157 (.ptr e3 0)] => some (e0, e1, e2, e3)
 | _ => none
theorem ho4_spec {σ : Sig} {c : Cont} {p0 q0 p1 q1 p2 q2 p3 q3 : Nm} (h : ho4 c = some (p0, p1, p2, p3)) (s0 : sameN (σ q0) p0) (s1 : sameN (σ q1) p1) (s2 : sameN (σ q2) p2) (s3 : sameN (σ q3) p3) : contR σ c (.cells [.ifc 157 (.ptr q0 0), .ifc 157 (.ptr q1 0), .ifc 157 (.ptr q2 0), .ifc 157 (.ptr q3 0)]) := by
 unfold ho4 at h
 split at h
 · simp only [Option.some.injEq, Prod.mk.injEq] at h
   obtain ⟨rfl, rfl, rfl, rfl⟩ := h
   show eqvRL σ _ _
   simp [eqvRL, eqvR, s0, s1, s2, s3]
 · cases h
noncomputable def pcq4C : List SV → RdM
 | [.ptr P 0, .agg [.flt .f64 px, .flt .f64 py]] => .read P fun o0 => (match po4 o0.c with
   | some (s, h) => .read s fun o1 => (match serOf o1.c with
   | some (cl, cw, cv, k, x, y, z, w, q, n) => .read q fun o2 => (match fltsFrom .f64 o2.c with
   | some (m2, g) => .read h fun o3 => (match ho4 o3.c with
   | some (e0, e1, e2, e3) => .read e0 fun o4 => (match serOf o4.c with
   | some (cl0, cw0, cv0, k0, x0, y0, z0, w0, q0, n0) => .read q0 fun o5 => (match fltsFrom .f64 o5.c with
   | some (m5, g0) => .read e1 fun o6 => (match serOf o6.c with
   | some (cl1, cw1, cv1, k1, x1, y1, z1, w1, q1, n1) => .read q1 fun o7 => (match fltsFrom .f64 o7.c with
   | some (m7, g1) => .read e2 fun o8 => (match serOf o8.c with
   | some (cl2, cw2, cv2, k2, x2, y2, z2, w2, q2, n2) => .read q2 fun o9 => (match fltsFrom .f64 o9.c with
   | some (m9, g2) => .read e3 fun o10 => (match serOf o10.c with
   | some (cl3, cw3, cv3, k3, x3, y3, z3, w3, q3, n3) => .read q3 fun o11 => (match fltsFrom .f64 o11.c with
   | some (m11, g3) => .ret ⟨[.ptr 0 0, .agg [.flt .f64 px, .flt .f64 py]], [(0, ⟨false, 137, .cells [.ifc 157 (.ptr 1 0), .slcc 3 4], 0⟩), (1, ⟨false, 150, serC cl cw cv k x y z w 2 n, 0⟩), (2, ⟨false, 100, .flts .f64 m2 g, 0⟩), (3, ⟨false, 106, .cells [.ifc 157 (.ptr 4 0), .ifc 157 (.ptr 6 0), .ifc 157 (.ptr 8 0), .ifc 157 (.ptr 10 0)], 0⟩), (4, ⟨false, 150, serC cl0 cw0 cv0 k0 x0 y0 z0 w0 5 n0, 0⟩), (5, ⟨false, 100, .flts .f64 m5 g0, 0⟩), (6, ⟨false, 150, serC cl1 cw1 cv1 k1 x1 y1 z1 w1 7 n1, 0⟩), (7, ⟨false, 100, .flts .f64 m7 g1, 0⟩), (8, ⟨false, 150, serC cl2 cw2 cv2 k2 x2 y2 z2 w2 9 n2, 0⟩), (9, ⟨false, 100, .flts .f64 m9 g2, 0⟩), (10, ⟨false, 150, serC cl3 cw3 cv3 k3 x3 y3 z3 w3 11 n3, 0⟩), (11, ⟨false, 100, .flts .f64 m11 g3, 0⟩)], .bool (rP g n cl x y z w px py true && !(rP g0 n0 cl0 x0 y0 z0 w0 px py false) && !(rP g1 n1 cl1 x1 y1 z1 w1 px py false) && !(rP g2 n2 cl2 x2 y2 z2 w2 px py false) && !(rP g3 n3 cl3 x3 y3 z3 w3 px py false)), [], [], some (m2 = 2 * n ∧ m5 = 2 * n0 ∧ m7 = 2 * n1 ∧ m9 = 2 * n2 ∧ m11 = 2 * n3 ∧ ((n ≤ 1000000 ∧ SmF g (2 * n)) ∧ (W1 x ∧ W1 y ∧ W1 z ∧ W1 w)) ∧ ((n0 ≤ 1000000 ∧ SmF g0 (2 * n0)) ∧ (W1 x0 ∧ W1 y0 ∧ W1 z0 ∧ W1 w0)) ∧ ((n1 ≤ 1000000 ∧ SmF g1 (2 * n1)) ∧ (W1 x1 ∧ W1 y1 ∧ W1 z1 ∧ W1 w1)) ∧ ((n2 ≤ 1000000 ∧ SmF g2 (2 * n2)) ∧ (W1 x2 ∧ W1 y2 ∧ W1 z2 ∧ W1 w2)) ∧ ((n3 ≤ 1000000 ∧ SmF g3 (2 * n3)) ∧ (W1 x3 ∧ W1 y3 ∧ W1 z3 ∧ W1 w3)) ∧ W1 px ∧ W1 py)⟩
   | none => .fail)
   | none => .fail)
   | none => .fail)
   | none => .fail)
   | none => .fail)
   | none => .fail)
   | none => .fail)
   | none => .fail)
   | none => .fail)
   | none => .fail)
   | none => .fail)
   | none => .fail)
 | _ => .fail
theorem vc_pcq4 (cl cw cv : Bool) (k : Int) (x y z w : Nat) (_ : Nm) (n : Nat) (_ _ : Nm) (_ _ _ _ : Nm) (cl0 cw0 cv0 : Bool) (k0 : Int) (x0 y0 z0 w0 : Nat) (_ : Nm) (n0 : Nat) (cl1 cw1 cv1 : Bool) (k1 : Int) (x1 y1 z1 w1 : Nat) (_ : Nm) (n1 : Nat) (cl2 cw2 cv2 : Bool) (k2 : Int) (x2 y2 z2 w2 : Nat) (_ : Nm) (n2 : Nat) (cl3 cw3 cv3 : Bool) (k3 : Int) (x3 y3 z3 w3 : Nat) (_ : Nm) (n3 : Nat) (px py : Nat)  (g : Nat → Nat) (g0 : Nat → Nat) (g1 : Nat → Nat) (g2 : Nat → Nat) (g3 : Nat → Nat) : runA Gpcq 12 [(7, .unr [⟨Nat, fun _ => ⟨40, [(3, .ptr 12 0), (5, .tt), (28, .slcc 3 4), (29, .int .i64 4), (30, .int .i64 0)], [(3, ⟨false, 106, .cells [.ifc 157 (.ptr 4 0), .ifc 157 (.ptr 6 0), .ifc 157 (.ptr 8 0), .ifc 157 (.ptr 10 0)], 0⟩), (4, ⟨false, 150, serC cl0 cw0 cv0 k0 x0 y0 z0 w0 5 n0, 0⟩), (5, ⟨false, 100, .flts .f64 (2 * n0) g0, 0⟩), (6, ⟨false, 150, serC cl1 cw1 cv1 k1 x1 y1 z1 w1 7 n1, 0⟩), (7, ⟨false, 100, .flts .f64 (2 * n1) g1, 0⟩), (8, ⟨false, 150, serC cl2 cw2 cv2 k2 x2 y2 z2 w2 9 n2, 0⟩), (9, ⟨false, 100, .flts .f64 (2 * n2) g2, 0⟩), (10, ⟨false, 150, serC cl3 cw3 cv3 k3 x3 y3 z3 w3 11 n3, 0⟩), (11, ⟨false, 100, .flts .f64 (2 * n3) g3, 0⟩), (12, ⟨true, 100, .cells [.flt .f64 px, .flt .f64 py], 0⟩)], 13⟩, fun _ => rP g n cl x y z w px py true = true, fun _ => 0⟩, ⟨Nat, fun _ => ⟨40, [(3, .ptr 12 0), (5, .tt), (28, .slcc 3 4), (29, .int .i64 4), (30, .int .i64 1)], [(3, ⟨false, 106, .cells [.ifc 157 (.ptr 4 0), .ifc 157 (.ptr 6 0), .ifc 157 (.ptr 8 0), .ifc 157 (.ptr 10 0)], 0⟩), (4, ⟨false, 150, serC cl0 cw0 cv0 k0 x0 y0 z0 w0 5 n0, 0⟩), (5, ⟨false, 100, .flts .f64 (2 * n0) g0, 0⟩), (6, ⟨false, 150, serC cl1 cw1 cv1 k1 x1 y1 z1 w1 7 n1, 0⟩), (7, ⟨false, 100, .flts .f64 (2 * n1) g1, 0⟩), (8, ⟨false, 150, serC cl2 cw2 cv2 k2 x2 y2 z2 w2 9 n2, 0⟩), (9, ⟨false, 100, .flts .f64 (2 * n2) g2, 0⟩), (10, ⟨false, 150, serC cl3 cw3 cv3 k3 x3 y3 z3 w3 11 n3, 0⟩), (11, ⟨false, 100, .flts .f64 (2 * n3) g3, 0⟩), (12, ⟨true, 100, .cells [.flt .f64 px, .flt .f64 py], 0⟩)], 13⟩, fun _ => rP g n cl x y z w px py true = true ∧ rP g0 n0 cl0 x0 y0 z0 w0 px py false = false, fun _ => 0⟩, ⟨Nat, fun _ => ⟨40, [(3, .ptr 12 0), (5, .tt), (28, .slcc 3 4), (29, .int .i64 4), (30, .int .i64 2)], [(3, ⟨false, 106, .cells [.ifc 157 (.ptr 4 0), .ifc 157 (.ptr 6 0), .ifc 157 (.ptr 8 0), .ifc 157 (.ptr 10 0)], 0⟩), (4, ⟨false, 150, serC cl0 cw0 cv0 k0 x0 y0 z0 w0 5 n0, 0⟩), (5, ⟨false, 100, .flts .f64 (2 * n0) g0, 0⟩), (6, ⟨false, 150, serC cl1 cw1 cv1 k1 x1 y1 z1 w1 7 n1, 0⟩), (7, ⟨false, 100, .flts .f64 (2 * n1) g1, 0⟩), (8, ⟨false, 150, serC cl2 cw2 cv2 k2 x2 y2 z2 w2 9 n2, 0⟩), (9, ⟨false, 100, .flts .f64 (2 * n2) g2, 0⟩), (10, ⟨false, 150, serC cl3 cw3 cv3 k3 x3 y3 z3 w3 11 n3, 0⟩), (11, ⟨false, 100, .flts .f64 (2 * n3) g3, 0⟩), (12, ⟨true, 100, .cells [.flt .f64 px, .flt .f64 py], 0⟩)], 13⟩, fun _ => rP g n cl x y z w px py true = true ∧ rP g0 n0 cl0 x0 y0 z0 w0 px py false = false ∧ rP g1 n1 cl1 x1 y1 z1 w1 px py false = false, fun _ => 0⟩, ⟨Nat, fun _ => ⟨40, [(3, .ptr 12 0), (5, .tt), (28, .slcc 3 4), (29, .int .i64 4), (30, .int .i64 3)], [(3, ⟨false, 106, .cells [.ifc 157 (.ptr 4 0), .ifc 157 (.ptr 6 0), .ifc 157 (.ptr 8 0), .ifc 157 (.ptr 10 0)], 0⟩), (4, ⟨false, 150, serC cl0 cw0 cv0 k0 x0 y0 z0 w0 5 n0, 0⟩), (5, ⟨false, 100, .flts .f64 (2 * n0) g0, 0⟩), (6, ⟨false, 150, serC cl1 cw1 cv1 k1 x1 y1 z1 w1 7 n1, 0⟩), (7, ⟨false, 100, .flts .f64 (2 * n1) g1, 0⟩), (8, ⟨false, 150, serC cl2 cw2 cv2 k2 x2 y2 z2 w2 9 n2, 0⟩), (9, ⟨false, 100, .flts .f64 (2 * n2) g2, 0⟩), (10, ⟨false, 150, serC cl3 cw3 cv3 k3 x3 y3 z3 w3 11 n3, 0⟩), (11, ⟨false, 100, .flts .f64 (2 * n3) g3, 0⟩), (12, ⟨true, 100, .cells [.flt .f64 px, .flt .f64 py], 0⟩)], 13⟩, fun _ => rP g n cl x y z w px py true = true ∧ rP g0 n0 cl0 x0 y0 z0 w0 px py false = false ∧ rP g1 n1 cl1 x1 y1 z1 w1 px py false = false ∧ rP g2 n2 cl2 x2 y2 z2 w2 px py false = false, fun _ => 0⟩, ⟨Nat, fun _ => ⟨40, [(3, .ptr 12 0), (5, .tt), (28, .slcc 3 4), (29, .int .i64 4), (30, .int .i64 4)], [(3, ⟨false, 106, .cells [.ifc 157 (.ptr 4 0), .ifc 157 (.ptr 6 0), .ifc 157 (.ptr 8 0), .ifc 157 (.ptr 10 0)], 0⟩), (4, ⟨false, 150, serC cl0 cw0 cv0 k0 x0 y0 z0 w0 5 n0, 0⟩), (5, ⟨false, 100, .flts .f64 (2 * n0) g0, 0⟩), (6, ⟨false, 150, serC cl1 cw1 cv1 k1 x1 y1 z1 w1 7 n1, 0⟩), (7, ⟨false, 100, .flts .f64 (2 * n1) g1, 0⟩), (8, ⟨false, 150, serC cl2 cw2 cv2 k2 x2 y2 z2 w2 9 n2, 0⟩), (9, ⟨false, 100, .flts .f64 (2 * n2) g2, 0⟩), (10, ⟨false, 150, serC cl3 cw3 cv3 k3 x3 y3 z3 w3 11 n3, 0⟩), (11, ⟨false, 100, .flts .f64 (2 * n3) g3, 0⟩), (12, ⟨true, 100, .cells [.flt .f64 px, .flt .f64 py], 0⟩)], 13⟩, fun _ => rP g n cl x y z w px py true = true ∧ rP g0 n0 cl0 x0 y0 z0 w0 px py false = false ∧ rP g1 n1 cl1 x1 y1 z1 w1 px py false = false ∧ rP g2 n2 cl2 x2 y2 z2 w2 px py false = false ∧ rP g3 n3 cl3 x3 y3 z3 w3 px py false = false, fun _ => 0⟩])] [] (codeOf Tryz.f171) (init Tryz.f171.ntmps [.ptr 0 0, .agg [.flt .f64 px, .flt .f64 py]] [(0, ⟨false, 137, .cells [.ifc 157 (.ptr 1 0), .slcc 3 4], 0⟩), (1, ⟨false, 150, serC cl cw cv k x y z w 2 n, 0⟩), (2, ⟨false, 100, .flts .f64 (2 * n) g, 0⟩), (3, ⟨false, 106, .cells [.ifc 157 (.ptr 4 0), .ifc 157 (.ptr 6 0), .ifc 157 (.ptr 8 0), .ifc 157 (.ptr 10 0)], 0⟩), (4, ⟨false, 150, serC cl0 cw0 cv0 k0 x0 y0 z0 w0 5 n0, 0⟩), (5, ⟨false, 100, .flts .f64 (2 * n0) g0, 0⟩), (6, ⟨false, 150, serC cl1 cw1 cv1 k1 x1 y1 z1 w1 7 n1, 0⟩), (7, ⟨false, 100, .flts .f64 (2 * n1) g1, 0⟩), (8, ⟨false, 150, serC cl2 cw2 cv2 k2 x2 y2 z2 w2 9 n2, 0⟩), (9, ⟨false, 100, .flts .f64 (2 * n2) g2, 0⟩), (10, ⟨false, 150, serC cl3 cw3 cv3 k3 x3 y3 z3 w3 11 n3, 0⟩), (11, ⟨false, 100, .flts .f64 (2 * n3) g3, 0⟩)] 12) (endK Gpcq.E.T Tryz.f171.results.toList fun S v => postP 12 ⟨[.ptr 0 0, .agg [.flt .f64 px, .flt .f64 py]], [(0, ⟨false, 137, .cells [.ifc 157 (.ptr 1 0), .slcc 3 4], 0⟩), (1, ⟨false, 150, serC cl cw cv k x y z w 2 n, 0⟩), (2, ⟨false, 100, .flts .f64 (2 * n) g, 0⟩), (3, ⟨false, 106, .cells [.ifc 157 (.ptr 4 0), .ifc 157 (.ptr 6 0), .ifc 157 (.ptr 8 0), .ifc 157 (.ptr 10 0)], 0⟩), (4, ⟨false, 150, serC cl0 cw0 cv0 k0 x0 y0 z0 w0 5 n0, 0⟩), (5, ⟨false, 100, .flts .f64 (2 * n0) g0, 0⟩), (6, ⟨false, 150, serC cl1 cw1 cv1 k1 x1 y1 z1 w1 7 n1, 0⟩), (7, ⟨false, 100, .flts .f64 (2 * n1) g1, 0⟩), (8, ⟨false, 150, serC cl2 cw2 cv2 k2 x2 y2 z2 w2 9 n2, 0⟩), (9, ⟨false, 100, .flts .f64 (2 * n2) g2, 0⟩), (10, ⟨false, 150, serC cl3 cw3 cv3 k3 x3 y3 z3 w3 11 n3, 0⟩), (11, ⟨false, 100, .flts .f64 (2 * n3) g3, 0⟩)], .bool (rP g n cl x y z w px py true && !(rP g0 n0 cl0 x0 y0 z0 w0 px py false) && !(rP g1 n1 cl1 x1 y1 z1 w1 px py false) && !(rP g2 n2 cl2 x2 y2 z2 w2 px py false) && !(rP g3 n3 cl3 x3 y3 z3 w3 px py false)), [], [], some (2 * n = 2 * n ∧ 2 * n0 = 2 * n0 ∧ 2 * n1 = 2 * n1 ∧ 2 * n2 = 2 * n2 ∧ 2 * n3 = 2 * n3 ∧ ((n ≤ 1000000 ∧ SmF g (2 * n)) ∧ (W1 x ∧ W1 y ∧ W1 z ∧ W1 w)) ∧ ((n0 ≤ 1000000 ∧ SmF g0 (2 * n0)) ∧ (W1 x0 ∧ W1 y0 ∧ W1 z0 ∧ W1 w0)) ∧ ((n1 ≤ 1000000 ∧ SmF g1 (2 * n1)) ∧ (W1 x1 ∧ W1 y1 ∧ W1 z1 ∧ W1 w1)) ∧ ((n2 ≤ 1000000 ∧ SmF g2 (2 * n2)) ∧ (W1 x2 ∧ W1 y2 ∧ W1 z2 ∧ W1 w2)) ∧ ((n3 ≤ 1000000 ∧ SmF g3 (2 * n3)) ∧ (W1 x3 ∧ W1 y3 ∧ W1 z3 ∧ W1 w3)) ∧ W1 px ∧ W1 py)⟩ S v) = (
(2 * n = 2 * n ∧ n ≤ 1000000 ∧ SmF g (2 * n) ∧ W1 px ∧ W1 py) ∧ true = true ∧ ((!(rcp g n (nsg cl n
(wz g)) x y z w px py true).1) = true → (rP g n cl x y z w px py true && !rP g0 n0 cl0 x0 y0 z0 w0 px py false && !rP g1 n1 cl1 x1 y1 z1 w1 px py false && !rP g2
 n2 cl2 x2 y2 z2 w2 px py false && !rP g3 n3 cl3 x3 y3 z3 w3 px py false) = false ∧ True) ∧ ((!(rcp g n (nsg cl n (wz g)) x y z w px py true).1) = false → (∃ (_ : Nat),
 rP g n cl x y z w px py true = true ∧ ((True ∧ 0 = 0) ∧ True ∧ (True ∧ 4 = 4) ∧ (4 : Int) = 4 ∧ (0 : Int) = 0 ∧ True) ∧ True ∧ ((True ∧ 0 = 0) ∧ (True ∧ 0 = 0) ∧ (True ∧ 0 = 0) ∧ (True ∧ 0 = 0) ∧ True) ∧ True ∧ (cl0 = cl0 ∧ cw0 = cw0 ∧ cv0 = cv0 ∧ k0 = k0 ∧ True ∧ x0 = x0 ∧ y0 = y0 ∧ z0 = z0 ∧ w0 = w0 ∧ (True ∧ n0 = n0) ∧ True) ∧ True ∧ (2 * n0 ≤ 2 *
 n0 ∧ ∀ (i : Nat), i < 2 * n0 → g0 i = g0 i) ∧ True ∧ (cl1 = cl1 ∧ cw1 = cw1 ∧ cv1 = cv1 ∧ k1 = k1 ∧ True ∧ x1 = x1 ∧ y1 = y1 ∧ z1 = z1 ∧ w1 = w1 ∧ (True ∧ n1 = n1) ∧ True) ∧ True ∧ (2 * n1 ≤ 2 * n1 ∧ ∀ (i : Nat), i < 2
* n1 → g1 i = g1 i) ∧ True ∧ (cl2 = cl2 ∧ cw2 = cw2 ∧ cv2 = cv2 ∧ k2 = k2 ∧ True ∧ x2 = x2 ∧ y2 = y2 ∧ z2 = z2 ∧ w2 = w2 ∧ (True ∧ n2 = n2) ∧ True) ∧ True ∧ (2 * n2 ≤ 2 * n2 ∧ ∀ (i : Nat), i < 2 * n2 → g2 i = g2 i) ∧ True ∧
(cl3 = cl3 ∧ cw3 = cw3 ∧ cv3 = cv3 ∧ k3 = k3 ∧ True ∧ x3 = x3 ∧ y3 = y3 ∧ z3 = z3 ∧ w3 = w3 ∧ (True ∧ n3 = n3) ∧ True) ∧ True ∧ (2 * n3 ≤ 2 * n3 ∧ ∀ (i : Nat), i < 2 * n3 → g3 i = g3 i) ∧ True ∧ (100 = 100 ∧ 0 = 0 ∧ px = px ∧ py = py ∧ True) ∧ True) ∧ (∀ (_ : Nat), rP g n cl x y z w px py true = true → (true = true → (((0 : Int) ≤ 0 ∧ (0 : Int) < 4) ∧ True) ∧ (2 * n0 = 2 * n0 ∧ n0 ≤ 1000000 ∧ SmF g0 (2 * n0) ∧ W1 px ∧ W1 py) ∧ ((rcp g0 n0 (nsg cl0 n0 (wz g0)) x0 y0 z0 w0 px py false).1 = true →
(rP g n cl x y z w px py true && !rP g0 n0 cl0 x0 y0 z0 w0 px py false && !rP g1 n1 cl1 x1 y1 z1 w1 px py false && !rP g2 n2 cl2 x2 y2 z2 w2 px py false && !rP
 g3 n3 cl3 x3 y3 z3 w3 px py false) = false ∧ True) ∧ ((rcp g0 n0 (nsg cl0 n0 (wz g0)) x0 y0 z0 w0 px py false).1 = false → ∃ (_ : Nat), (rP g n cl x y z w px py true =
 true ∧ rP g0 n0 cl0 x0 y0 z0 w0 px py false = false) ∧ ((True ∧ 0 = 0) ∧ True ∧ (True ∧ 4 = 4) ∧ (4 : Int) = 4 ∧ (1 : Int) = 1 ∧ True) ∧ True ∧ ((True ∧ 0 = 0) ∧ (True
∧ 0 = 0) ∧ (True ∧ 0 = 0) ∧ (True ∧ 0 = 0) ∧ True) ∧ True ∧ (cl0 = cl0 ∧ cw0 = cw0 ∧ cv0 = cv0 ∧ k0 = k0 ∧ True ∧ x0 = x0 ∧ y0 = y0 ∧ z0 = z0 ∧ w0 = w0 ∧ (True ∧ n0 = n0) ∧ True) ∧ True ∧ (2 *
 n0 ≤ 2 * n0 ∧ ∀ (i : Nat), i < 2 * n0 → g0 i = g0 i) ∧ True ∧ (cl1 = cl1 ∧ cw1 = cw1 ∧ cv1 = cv1 ∧ k1 = k1 ∧ True ∧ x1 = x1 ∧ y1 = y1 ∧ z1 = z1 ∧ w1 = w1 ∧ (True ∧ n1 = n1) ∧ True) ∧ True ∧ (2 * n1 ≤ 2 * n1 ∧ ∀ (i :
 Nat), i < 2 * n1 → g1 i = g1 i) ∧ True ∧ (cl2 = cl2 ∧ cw2 = cw2 ∧ cv2 = cv2 ∧ k2 = k2 ∧ True ∧ x2 = x2 ∧ y2 = y2 ∧ z2 = z2 ∧ w2 = w2 ∧ (True ∧ n2 = n2) ∧ True) ∧ True ∧ (2 * n2 ≤ 2 * n2 ∧ ∀ (i : Nat), i < 2 * n2 → g2 i
= g2 i) ∧ True ∧ (cl3 = cl3 ∧ cw3 = cw3 ∧ cv3 = cv3 ∧ k3 = k3 ∧ True ∧ x3 = x3 ∧ y3 = y3 ∧ z3 = z3 ∧ w3 = w3 ∧ (True ∧ n3 = n3) ∧ True) ∧ True ∧ (2 * n3 ≤ 2 * n3 ∧ ∀ (i : Nat), i < 2 * n3 → g3 i = g3 i) ∧ True ∧ (100 =
100 ∧ 0 = 0 ∧ px = px ∧ py = py ∧ True) ∧ True)) ∧ (true = false → (rP g n cl x y z w px py true && !rP g0 n0 cl0 x0 y0 z0 w0 px py false && !rP g1 n1 cl1 x1 y1 z1 w1 px py
 false && !rP g2 n2 cl2 x2 y2 z2 w2 px py false && !rP g3 n3 cl3 x3 y3 z3 w3 px py false) = true ∧ True)) ∧ (∀ (_ : Nat), rP g n cl x y z w px py true = true ∧ rP g0 n0 cl0 x0 y0
 z0 w0 px py false = false → (true = true → (((0 : Int) ≤ 1 ∧ (1 : Int) < 4) ∧ True) ∧ (2 * n1 = 2 * n1 ∧ n1 ≤ 1000000 ∧ SmF g1 (2 * n1) ∧ W1 px ∧ W1
 py) ∧ ((rcp g1 n1 (nsg cl1 n1 (wz g1)) x1 y1 z1 w1 px py false).1 = true → (rP g n cl x y z w px py true && !rP g0 n0 cl0 x0 y0 z0 w0 px py false &&
!rP g1 n1 cl1 x1 y1 z1 w1 px py false && !rP g2 n2 cl2 x2 y2 z2 w2 px py false && !rP g3 n3 cl3 x3 y3 z3 w3 px py false) = false ∧ True) ∧ ((rcp g1 n1
(nsg cl1 n1 (wz g1)) x1 y1 z1 w1 px py false).1 = false → ∃ (_ : Nat), (rP g n cl x y z w px py true = true ∧ rP g0 n0 cl0 x0 y0 z0 w0 px py false = false ∧ rP g1
 n1 cl1 x1 y1 z1 w1 px py false = false) ∧ ((True ∧ 0 = 0) ∧ True ∧ (True ∧ 4 = 4) ∧ (4 : Int) = 4 ∧ (2 : Int) = 2 ∧ True) ∧ True ∧ ((True ∧ 0 = 0) ∧ (True ∧ 0 = 0) ∧
(True ∧ 0 = 0) ∧ (True ∧ 0 = 0) ∧ True) ∧ True ∧ (cl0 = cl0 ∧ cw0 = cw0 ∧ cv0 = cv0 ∧ k0 = k0 ∧ True ∧ x0 = x0 ∧ y0 = y0 ∧ z0 = z0 ∧ w0 = w0 ∧ (True ∧ n0 = n0) ∧ True) ∧ True ∧ (2 * n0 ≤ 2 * n0 ∧ ∀ (i :
 Nat), i < 2 * n0 → g0 i = g0 i) ∧ True ∧ (cl1 = cl1 ∧ cw1 = cw1 ∧ cv1 = cv1 ∧ k1 = k1 ∧ True ∧ x1 = x1 ∧ y1 = y1 ∧ z1 = z1 ∧ w1 = w1 ∧ (True ∧ n1 = n1) ∧ True) ∧ True ∧ (2 * n1 ≤ 2 * n1 ∧ ∀ (i : Nat), i < 2 * n1 → g1 i
= g1 i) ∧ True ∧ (cl2 = cl2 ∧ cw2 = cw2 ∧ cv2 = cv2 ∧ k2 = k2 ∧ True ∧ x2 = x2 ∧ y2 = y2 ∧ z2 = z2 ∧ w2 = w2 ∧ (True ∧ n2 = n2) ∧ True) ∧ True ∧ (2 * n2 ≤ 2 * n2 ∧ ∀ (i : Nat), i < 2 * n2 → g2 i = g2 i) ∧ True ∧ (cl3 = cl3 ∧
 cw3 = cw3 ∧ cv3 = cv3 ∧ k3 = k3 ∧ True ∧ x3 = x3 ∧ y3 = y3 ∧ z3 = z3 ∧ w3 = w3 ∧ (True ∧ n3 = n3) ∧ True) ∧ True ∧ (2 * n3 ≤ 2 * n3 ∧ ∀ (i : Nat), i < 2 * n3 → g3 i = g3 i) ∧ True ∧ (100 = 100 ∧ 0 = 0 ∧ px = px ∧ py = py ∧ True) ∧ True)) ∧ (true = false → (rP g n cl x y z w px py true && !rP g0 n0 cl0 x0 y0 z0 w0 px py false && !rP g1 n1 cl1 x1 y1 z1 w1 px py false &&
!rP g2 n2 cl2 x2 y2 z2 w2 px py false && !rP g3 n3 cl3 x3 y3 z3 w3 px py false) = true ∧ True)) ∧ (∀ (_ : Nat), rP g n cl x y z w px py true = true ∧ rP g0 n0 cl0 x0 y0 z0 w0 px
 py false = false ∧ rP g1 n1 cl1 x1 y1 z1 w1 px py false = false → (true = true → (((0 : Int) ≤ 2 ∧ (2 : Int) < 4) ∧ True) ∧ (2 * n2 = 2 * n2 ∧ n2 ≤ 1000000 ∧ SmF g2 (2 * n2) ∧ W1 px ∧ W1 py) ∧ ((rcp g2 n2 (nsg cl2 n2 (wz g2)) x2 y2 z2 w2 px py false).1 = true → (rP g n cl x y z w px py true &&
!rP g0 n0 cl0 x0 y0 z0 w0 px py false && !rP g1 n1 cl1 x1 y1 z1 w1 px py false && !rP g2 n2 cl2 x2 y2 z2 w2 px py false && !rP g3 n3 cl3 x3 y3 z3 w3 px py false) = false ∧ True)
∧ ((rcp g2 n2 (nsg cl2 n2 (wz g2)) x2 y2 z2 w2 px py false).1 = false → ∃ (_ : Nat), (rP g n cl x y z w px py true = true ∧ rP g0 n0 cl0 x0 y0 z0 w0 px
 py false = false ∧ rP g1 n1 cl1 x1 y1 z1 w1 px py false = false ∧ rP g2 n2 cl2 x2 y2 z2 w2 px py false = false) ∧ ((True ∧ 0 = 0) ∧ True ∧ (True ∧ 4 = 4) ∧ (4 : Int) = 4 ∧ (3
: Int) = 3 ∧ True) ∧ True ∧ ((True ∧ 0 = 0) ∧ (True ∧ 0 = 0) ∧ (True ∧ 0 = 0) ∧ (True ∧ 0 = 0) ∧ True) ∧ True ∧ (cl0 = cl0 ∧ cw0 = cw0 ∧ cv0 = cv0 ∧ k0 = k0 ∧ True ∧ x0 = x0 ∧ y0
= y0 ∧ z0 = z0 ∧ w0 = w0 ∧ (True ∧ n0 = n0) ∧ True) ∧ True ∧ (2 * n0 ≤ 2 * n0 ∧ ∀ (i : Nat), i < 2 * n0 → g0 i = g0 i) ∧ True ∧ (cl1 = cl1 ∧ cw1 = cw1 ∧ cv1 = cv1 ∧ k1 = k1 ∧ True ∧ x1 = x1 ∧ y1 = y1 ∧ z1 = z1 ∧ w1 = w1 ∧
(True ∧ n1 = n1) ∧ True) ∧ True ∧ (2 * n1 ≤ 2 * n1 ∧ ∀ (i : Nat), i < 2 * n1 → g1 i = g1 i) ∧ True ∧ (cl2 = cl2 ∧ cw2 = cw2 ∧ cv2 = cv2 ∧ k2 = k2 ∧ True ∧ x2 = x2 ∧ y2 = y2 ∧ z2 = z2 ∧ w2 = w2 ∧ (True ∧ n2 = n2) ∧ True) ∧ True
∧ (2 * n2 ≤ 2 * n2 ∧ ∀ (i : Nat), i < 2 * n2 → g2 i = g2 i) ∧ True ∧ (cl3 = cl3 ∧ cw3 = cw3 ∧ cv3 = cv3 ∧ k3 = k3 ∧ True ∧ x3 = x3 ∧ y3 = y3 ∧ z3 = z3 ∧ w3 = w3 ∧ (True ∧ n3 = n3) ∧ True) ∧ True ∧ (2 * n3 ≤ 2 *
 n3 ∧ ∀ (i : Nat), i < 2 * n3 → g3 i = g3 i) ∧ True ∧ (100 = 100 ∧ 0 = 0 ∧ px = px ∧ py = py ∧ True) ∧ True)) ∧ (true = false → (rP g n cl x y z w px py true && !rP g0 n0 cl0
 x0 y0 z0 w0 px py false && !rP g1 n1 cl1 x1 y1 z1 w1 px py false && !rP g2 n2 cl2 x2 y2 z2 w2 px py false && !rP g3 n3 cl3 x3 y3 z3 w3 px py false) = true ∧ True)) ∧ (∀ (_ : Nat),
 rP g n cl x y z w px py true = true ∧ rP g0 n0 cl0 x0 y0 z0 w0 px py false = false ∧ rP g1 n1 cl1 x1 y1 z1 w1 px py false = false ∧ rP g2 n2 cl2 x2 y2 z2 w2 px py false = false →
(true = true → (((0 : Int) ≤ 3 ∧ (3 : Int) < 4) ∧ True) ∧ (2 * n3 = 2 * n3 ∧ n3 ≤ 1000000 ∧ SmF g3 (2 * n3) ∧ W1 px ∧ W1 py) ∧ (Prod.fst
(rcp g3 n3 (nsg cl3 n3 (wz g3)) x3 y3 z3 w3 px py false) = true → (rP g n cl x y z w px py true && !rP g0 n0 cl0 x0 y0 z0 w0 px py false &&
!rP g1 n1 cl1 x1 y1 z1 w1 px py false && !rP g2 n2 cl2 x2 y2 z2 w2 px py false && !rP g3 n3 cl3 x3 y3 z3 w3 px py false) = false ∧ True) ∧ ((rcp g3 n3
(nsg cl3 n3 (wz g3)) x3 y3 z3 w3 px py false).1 = false → ∃ (_ : Nat), (rP g n cl x y z w px py true = true ∧ rP g0 n0 cl0 x0 y0 z0 w0 px py false = false ∧ rP g1
 n1 cl1 x1 y1 z1 w1 px py false = false ∧ rP g2 n2 cl2 x2 y2 z2 w2 px py false = false ∧ rP g3 n3 cl3 x3 y3 z3 w3 px py false = false) ∧ ((True ∧ 0 = 0) ∧ True ∧ (True ∧ 4 = 4) ∧ (4 :
 Int) = (4 : Int) ∧ (4 : Int) = 4 ∧ True) ∧ True ∧ ((True ∧ 0 = 0) ∧ (True ∧ 0 = 0) ∧ (True ∧ 0 = 0) ∧ (True ∧ 0 = 0) ∧ True) ∧ True ∧ (cl0 = cl0 ∧ cw0 = cw0 ∧ cv0 = cv0 ∧ k0 = k0
∧ True ∧ x0 = x0 ∧ y0 = y0 ∧ z0 = z0 ∧ w0 = w0 ∧ (True ∧ n0 = n0) ∧ True) ∧ True ∧ (2 * n0 ≤ 2 * n0 ∧ ∀ (i : Nat), i < 2 * n0 → g0 i = g0 i) ∧ True ∧ (cl1 = cl1 ∧ cw1 = cw1 ∧ cv1 = cv1 ∧ k1 = k1 ∧ True ∧ x1 = x1 ∧ y1 = y1 ∧ z1
= z1 ∧ w1 = w1 ∧ (True ∧ n1 = n1) ∧ True) ∧ True ∧ (2 * n1 ≤ 2 * n1 ∧ ∀ (i : Nat), i < 2 * n1 → g1 i = g1 i) ∧ True ∧ (cl2 = cl2 ∧ cw2 = cw2 ∧ cv2 = cv2 ∧ k2 = k2 ∧ True ∧ x2 = x2 ∧ y2 = y2 ∧ z2 = z2 ∧ w2 = w2 ∧ (True ∧ n2 =
 n2) ∧ True) ∧ True ∧ (2 * n2 ≤ 2 * n2 ∧ ∀ (i : Nat), i < 2 * n2 → g2 i = g2 i) ∧ True ∧ (cl3 = cl3 ∧ cw3 = cw3 ∧ cv3 = cv3 ∧ k3 = k3 ∧ True ∧ x3 = x3 ∧ y3 = y3 ∧ z3 = z3 ∧ w3 = w3 ∧ (True ∧ n3 = n3) ∧ True) ∧ True ∧ (2
* n3 ≤ 2 * n3 ∧ ∀ (i : Nat), i < 2 * n3 → g3 i = g3 i) ∧ True ∧ (100 = 100 ∧ 0 = 0 ∧ px = px ∧ py = py ∧ True) ∧ True)) ∧ (true = false → (rP g n cl x y z w px py true &&
!rP g0 n0 cl0 x0 y0 z0 w0 px py false && !rP g1 n1 cl1 x1 y1 z1 w1 px py false && !rP g2 n2 cl2 x2 y2 z2 w2 px py false && !rP g3 n3 cl3 x3 y3 z3 w3 px py false) = true ∧ True))
∧ (∀ (_ : Nat), rP g n cl x y z w px py true = true ∧ rP g0 n0 cl0 x0 y0 z0 w0 px py false = false ∧ rP g1 n1 cl1 x1 y1 z1 w1 px py false = false ∧ rP g2 n2 cl2 x2 y2 z2 w2 px py
 false = false ∧ rP g3 n3 cl3 x3 y3 z3 w3 px py false = false → (false = true → (((0 : Int) ≤ 4 ∧ (4 : Int) < 4) ∧ True) ∧ False) ∧ (false = false → (rP g n cl x y z w px py true &&
!rP g0 n0 cl0 x0 y0 z0 w0 px py false && !rP g1 n1 cl1 x1 y1 z1 w1 px py false && !rP g2 n2 cl2 x2 y2 z2 w2 px py false && !rP g3 n3 cl3 x3 y3 z3 w3 px py false) = true ∧ True))
∧ True)) := by kernel_rfl
theorem pcq4 : ConOk Tryz.prog 171 (conR pcq4C) := by
 refine con_of_vc gpcq Tryz.func171 rfl (by kernel_rfl) fun args => ?_
 unfold pcq4C
 split
 · rename_i P px py
   intro o0
   show RdM.All _ (match po4 o0.c with | some (s, h) => _ | none => _) _
   split
   · rename_i s h hm0
     intro o1
     show RdM.All _ (match serOf o1.c with | some (cl, cw, cv, k, x, y, z, w, q, n) => _ | none => _) _
     split
     · rename_i cl cw cv k x y z w q n hm1
       intro o2
       show RdM.All _ (match fltsFrom .f64 o2.c with | some (m, g) => _ | none => _) _
       split
       · rename_i m2 g hm2
         intro o3
         show RdM.All _ (match ho4 o3.c with | some (e0, e1, e2, e3) => _ | none => _) _
         split
         · rename_i e0 e1 e2 e3 hm3
           intro o4
           show RdM.All _ (match serOf o4.c with | some (cl0, cw0, cv0, k0, x0, y0, z0, w0, q0, n0) => _ | none => _) _
           split
           · rename_i cl0 cw0 cv0 k0 x0 y0 z0 w0 q0 n0 hm4
             intro o5
             show RdM.All _ (match fltsFrom .f64 o5.c with | some (m, g) => _ | none => _) _
             split
             · rename_i m5 g0 hm5
               intro o6
               show RdM.All _ (match serOf o6.c with | some (cl1, cw1, cv1, k1, x1, y1, z1, w1, q1, n1) => _ | none => _) _
               split
               · rename_i cl1 cw1 cv1 k1 x1 y1 z1 w1 q1 n1 hm6
                 intro o7
                 show RdM.All _ (match fltsFrom .f64 o7.c with | some (m, g) => _ | none => _) _
                 split
                 · rename_i m7 g1 hm7
                   intro o8
                   show RdM.All _ (match serOf o8.c with | some (cl2, cw2, cv2, k2, x2, y2, z2, w2, q2, n2) => _ | none => _) _
                   split
                   · rename_i cl2 cw2 cv2 k2 x2 y2 z2 w2 q2 n2 hm8
                     intro o9
                     show RdM.All _ (match fltsFrom .f64 o9.c with | some (m, g) => _ | none => _) _
                     split
                     · rename_i m9 g2 hm9
                       intro o10
                       show RdM.All _ (match serOf o10.c with | some (cl3, cw3, cv3, k3, x3, y3, z3, w3, q3, n3) => _ | none => _) _
                       split
                       · rename_i cl3 cw3 cv3 k3 x3 y3 z3 w3 q3 n3 hm10
                         intro o11
                         show RdM.All _ (match fltsFrom .f64 o11.c with | some (m, g) => _ | none => _) _
                         split
                         · rename_i m11 g3 hm11
                           intro ho
                           replace ho : m2 = 2 * n ∧ m5 = 2 * n0 ∧ m7 = 2 * n1 ∧ m9 = 2 * n2 ∧ m11 = 2 * n3 ∧ ((n ≤ 1000000 ∧ SmF g (2 * n)) ∧ (W1 x ∧ W1 y ∧ W1 z ∧ W1 w)) ∧ ((n0 ≤ 1000000 ∧ SmF g0 (2 * n0)) ∧ (W1 x0 ∧ W1 y0 ∧ W1 z0 ∧ W1 w0)) ∧ ((n1 ≤ 1000000 ∧ SmF g1 (2 * n1)) ∧ (W1 x1 ∧ W1 y1 ∧ W1 z1 ∧ W1 w1)) ∧ ((n2 ≤ 1000000 ∧ SmF g2 (2 * n2)) ∧ (W1 x2 ∧ W1 y2 ∧ W1 z2 ∧ W1 w2)) ∧ ((n3 ≤ 1000000 ∧ SmF g3 (2 * n3)) ∧ (W1 x3 ∧ W1 y3 ∧ W1 z3 ∧ W1 w3)) ∧ W1 px ∧ W1 py := ho
                           obtain ⟨hsz2, hsz5, hsz7, hsz9, hsz11, ho⟩ := ho
                           subst hsz2
                           subst hsz5
                           subst hsz7
                           subst hsz9
                           subst hsz11
                           refine ⟨?_, _, _, (vc_pcq4 cl cw cv k x y z w q n s h e0 e1 e2 e3 cl0 cw0 cv0 k0 x0 y0 z0 w0 q0 n0 cl1 cw1 cv1 k1 x1 y1 z1 w1 q1 n1 cl2 cw2 cv2 k2 x2 y2 z2 w2 q2 n2 cl3 cw3 cv3 k3 x3 y3 z3 w3 q3 n3 px py g g0 g1 g2 g3).mpr ?_⟩
                           · refine okFlag_mk rfl ⟨?_, ⟨trivial, po4_spec hm0 (by simp [sgSig, fsts, nth, sameN_self]) (by simp [sgSig, fsts, nth, sameN_self]), ⟨trivial, serOf_spec hm1 (by simp [sgSig, fsts, nth, sameN_self]), ⟨trivial, (contR_flts hm2).1, ⟨trivial, ho4_spec hm3 (by simp [sgSig, fsts, nth, sameN_self]) (by simp [sgSig, fsts, nth, sameN_self]) (by simp [sgSig, fsts, nth, sameN_self]) (by simp [sgSig, fsts, nth, sameN_self]), ⟨trivial, serOf_spec hm4 (by simp [sgSig, fsts, nth, sameN_self]), ⟨trivial, (contR_flts hm5).1, ⟨trivial, serOf_spec hm6 (by simp [sgSig, fsts, nth, sameN_self]), ⟨trivial, (contR_flts hm7).1, ⟨trivial, serOf_spec hm8 (by simp [sgSig, fsts, nth, sameN_self]), ⟨trivial, (contR_flts hm9).1, ⟨trivial, serOf_spec hm10 (by simp [sgSig, fsts, nth, sameN_self]), ⟨trivial, (contR_flts hm11).1, trivial⟩⟩⟩⟩⟩⟩⟩⟩⟩⟩⟩⟩⟩
                             simp [eqvRL, eqvR, fkEq_self, sgSig, fsts, nth, sameN_self]
                           · simp only [show ∀ g n cl x y z w px py al, (rcp g n (nsg cl n (wz g)) x y z w px py al).1 = rP g n cl x y z w px py al from fun _ _ _ _ _ _ _ _ _ _ => rfl]
                             generalize rP g n cl x y z w px py true = r
                             generalize rP g0 n0 cl0 x0 y0 z0 w0 px py false = r0
                             generalize rP g1 n1 cl1 x1 y1 z1 w1 px py false = r1
                             generalize rP g2 n2 cl2 x2 y2 z2 w2 px py false = r2
                             generalize rP g3 n3 cl3 x3 y3 z3 w3 px py false = r3
                             cases r <;> cases r0 <;> cases r1 <;> cases r2 <;> cases r3 <;> simp [ho]
                         · trivial
                       · trivial
                     · trivial
                   · trivial
                 · trivial
               · trivial
             · trivial
           · trivial
         · trivial
       · trivial
     · trivial
   · trivial
 · trivial
noncomputable def Gpiq4 : Ctx := ⟨⟨tys, []⟩, [(171, conR pcq4C)]⟩
theorem gpiq4 : CtxOk Tryz.prog Gpiq4 := ⟨⟨tysOk, FlatsOk.nil⟩, GamOk.cons pcq4 GamOk.nil, by kernel_rfl⟩
noncomputable def piq4C : List SV → RdM
 | [.ptr P 0, .agg [.flt .f64 px, .flt .f64 py]] => .read P fun o0 => (match po4 o0.c with
   | some (s, h) => .read s fun o1 => (match serOf o1.c with
   | some (cl, cw, cv, k, x, y, z, w, q, n) => .read q fun o2 => (match fltsFrom .f64 o2.c with
   | some (m2, g) => .read h fun o3 => (match ho4 o3.c with
   | some (e0, e1, e2, e3) => .read e0 fun o4 => (match serOf o4.c with
   | some (cl0, cw0, cv0, k0, x0, y0, z0, w0, q0, n0) => .read q0 fun o5 => (match fltsFrom .f64 o5.c with
   | some (m5, g0) => .read e1 fun o6 => (match serOf o6.c with
   | some (cl1, cw1, cv1, k1, x1, y1, z1, w1, q1, n1) => .read q1 fun o7 => (match fltsFrom .f64 o7.c with
   | some (m7, g1) => .read e2 fun o8 => (match serOf o8.c with
   | some (cl2, cw2, cv2, k2, x2, y2, z2, w2, q2, n2) => .read q2 fun o9 => (match fltsFrom .f64 o9.c with
   | some (m9, g2) => .read e3 fun o10 => (match serOf o10.c with
   | some (cl3, cw3, cv3, k3, x3, y3, z3, w3, q3, n3) => .read q3 fun o11 => (match fltsFrom .f64 o11.c with
   | some (m11, g3) => .ret ⟨[.ptr 0 0, .agg [.flt .f64 px, .flt .f64 py]], [(0, ⟨false, 137, .cells [.ifc 157 (.ptr 1 0), .slcc 3 4], 0⟩), (1, ⟨false, 150, serC cl cw cv k x y z w 2 n, 0⟩), (2, ⟨false, 100, .flts .f64 m2 g, 0⟩), (3, ⟨false, 106, .cells [.ifc 157 (.ptr 4 0), .ifc 157 (.ptr 6 0), .ifc 157 (.ptr 8 0), .ifc 157 (.ptr 10 0)], 0⟩), (4, ⟨false, 150, serC cl0 cw0 cv0 k0 x0 y0 z0 w0 5 n0, 0⟩), (5, ⟨false, 100, .flts .f64 m5 g0, 0⟩), (6, ⟨false, 150, serC cl1 cw1 cv1 k1 x1 y1 z1 w1 7 n1, 0⟩), (7, ⟨false, 100, .flts .f64 m7 g1, 0⟩), (8, ⟨false, 150, serC cl2 cw2 cv2 k2 x2 y2 z2 w2 9 n2, 0⟩), (9, ⟨false, 100, .flts .f64 m9 g2, 0⟩), (10, ⟨false, 150, serC cl3 cw3 cv3 k3 x3 y3 z3 w3 11 n3, 0⟩), (11, ⟨false, 100, .flts .f64 m11 g3, 0⟩)], .bool (rP g n cl x y z w px py true && !(rP g0 n0 cl0 x0 y0 z0 w0 px py false) && !(rP g1 n1 cl1 x1 y1 z1 w1 px py false) && !(rP g2 n2 cl2 x2 y2 z2 w2 px py false) && !(rP g3 n3 cl3 x3 y3 z3 w3 px py false)), [], [], some (m2 = 2 * n ∧ m5 = 2 * n0 ∧ m7 = 2 * n1 ∧ m9 = 2 * n2 ∧ m11 = 2 * n3 ∧ ((n ≤ 1000000 ∧ SmF g (2 * n)) ∧ (W1 x ∧ W1 y ∧ W1 z ∧ W1 w)) ∧ ((n0 ≤ 1000000 ∧ SmF g0 (2 * n0)) ∧ (W1 x0 ∧ W1 y0 ∧ W1 z0 ∧ W1 w0)) ∧ ((n1 ≤ 1000000 ∧ SmF g1 (2 * n1)) ∧ (W1 x1 ∧ W1 y1 ∧ W1 z1 ∧ W1 w1)) ∧ ((n2 ≤ 1000000 ∧ SmF g2 (2 * n2)) ∧ (W1 x2 ∧ W1 y2 ∧ W1 z2 ∧ W1 w2)) ∧ ((n3 ≤ 1000000 ∧ SmF g3 (2 * n3)) ∧ (W1 x3 ∧ W1 y3 ∧ W1 z3 ∧ W1 w3)) ∧ W1 px ∧ W1 py)⟩
   | none => .fail)
   | none => .fail)
   | none => .fail)
   | none => .fail)
   | none => .fail)
   | none => .fail)
   | none => .fail)
   | none => .fail)
   | none => .fail)
   | none => .fail)
   | none => .fail)
   | none => .fail)
 | _ => .fail
theorem vc_piq4 (cl cw cv : Bool) (k : Int) (x y z w : Nat) (_ : Nm) (n : Nat) (_ _ : Nm) (_ _ _ _ : Nm) (cl0 cw0 cv0 : Bool) (k0 : Int) (x0 y0 z0 w0 : Nat) (_ : Nm) (n0 : Nat) (cl1 cw1 cv1 : Bool) (k1 : Int) (x1 y1 z1 w1 : Nat) (_ : Nm) (n1 : Nat) (cl2 cw2 cv2 : Bool) (k2 : Int) (x2 y2 z2 w2 : Nat) (_ : Nm) (n2 : Nat) (cl3 cw3 cv3 : Bool) (k3 : Int) (x3 y3 z3 w3 : Nat) (_ : Nm) (n3 : Nat) (px py : Nat)  (g : Nat → Nat) (g0 : Nat → Nat) (g1 : Nat → Nat) (g2 : Nat → Nat) (g3 : Nat → Nat) : runA Gpiq4 12 [] [] (codeOf Tryz.f168) (init Tryz.f168.ntmps [.ptr 0 0, .agg [.flt .f64 px, .flt .f64 py]] [(0, ⟨false, 137, .cells [.ifc 157 (.ptr 1 0), .slcc 3 4], 0⟩), (1, ⟨false, 150, serC cl cw cv k x y z w 2 n, 0⟩), (2, ⟨false, 100, .flts .f64 (2 * n) g, 0⟩), (3, ⟨false, 106, .cells [.ifc 157 (.ptr 4 0), .ifc 157 (.ptr 6 0), .ifc 157 (.ptr 8 0), .ifc 157 (.ptr 10 0)], 0⟩), (4, ⟨false, 150, serC cl0 cw0 cv0 k0 x0 y0 z0 w0 5 n0, 0⟩), (5, ⟨false, 100, .flts .f64 (2 * n0) g0, 0⟩), (6, ⟨false, 150, serC cl1 cw1 cv1 k1 x1 y1 z1 w1 7 n1, 0⟩), (7, ⟨false, 100, .flts .f64 (2 * n1) g1, 0⟩), (8, ⟨false, 150, serC cl2 cw2 cv2 k2 x2 y2 z2 w2 9 n2, 0⟩), (9, ⟨false, 100, .flts .f64 (2 * n2) g2, 0⟩), (10, ⟨false, 150, serC cl3 cw3 cv3 k3 x3 y3 z3 w3 11 n3, 0⟩), (11, ⟨false, 100, .flts .f64 (2 * n3) g3, 0⟩)] 12) (endK Gpiq4.E.T Tryz.f168.results.toList fun S v => postP 12 ⟨[.ptr 0 0, .agg [.flt .f64 px, .flt .f64 py]], [(0, ⟨false, 137, .cells [.ifc 157 (.ptr 1 0), .slcc 3 4], 0⟩), (1, ⟨false, 150, serC cl cw cv k x y z w 2 n, 0⟩), (2, ⟨false, 100, .flts .f64 (2 * n) g, 0⟩), (3, ⟨false, 106, .cells [.ifc 157 (.ptr 4 0), .ifc 157 (.ptr 6 0), .ifc 157 (.ptr 8 0), .ifc 157 (.ptr 10 0)], 0⟩), (4, ⟨false, 150, serC cl0 cw0 cv0 k0 x0 y0 z0 w0 5 n0, 0⟩), (5, ⟨false, 100, .flts .f64 (2 * n0) g0, 0⟩), (6, ⟨false, 150, serC cl1 cw1 cv1 k1 x1 y1 z1 w1 7 n1, 0⟩), (7, ⟨false, 100, .flts .f64 (2 * n1) g1, 0⟩), (8, ⟨false, 150, serC cl2 cw2 cv2 k2 x2 y2 z2 w2 9 n2, 0⟩), (9, ⟨false, 100, .flts .f64 (2 * n2) g2, 0⟩), (10, ⟨false, 150, serC cl3 cw3 cv3 k3 x3 y3 z3 w3 11 n3, 0⟩), (11, ⟨false, 100, .flts .f64 (2 * n3) g3, 0⟩)], .bool (rP g n cl x y z w px py true && !(rP g0 n0 cl0 x0 y0 z0 w0 px py false) && !(rP g1 n1 cl1 x1 y1 z1 w1 px py false) && !(rP g2 n2 cl2 x2 y2 z2 w2 px py false) && !(rP g3 n3 cl3 x3 y3 z3 w3 px py false)), [], [], some (2 * n = 2 * n ∧ 2 * n0 = 2 * n0 ∧ 2 * n1 = 2 * n1 ∧ 2 * n2 = 2 * n2 ∧ 2 * n3 = 2 * n3 ∧ ((n ≤ 1000000 ∧ SmF g (2 * n)) ∧ (W1 x ∧ W1 y ∧ W1 z ∧ W1 w)) ∧ ((n0 ≤ 1000000 ∧ SmF g0 (2 * n0)) ∧ (W1 x0 ∧ W1 y0 ∧ W1 z0 ∧ W1 w0)) ∧ ((n1 ≤ 1000000 ∧ SmF g1 (2 * n1)) ∧ (W1 x1 ∧ W1 y1 ∧ W1 z1 ∧ W1 w1)) ∧ ((n2 ≤ 1000000 ∧ SmF g2 (2 * n2)) ∧ (W1 x2 ∧ W1 y2 ∧ W1 z2 ∧ W1 w2)) ∧ ((n3 ≤ 1000000 ∧ SmF g3 (2 * n3)) ∧ (W1 x3 ∧ W1 y3 ∧ W1 z3 ∧ W1 w3)) ∧ W1 px ∧ W1 py)⟩ S v) = (
(2 * n = 2 * n ∧ 2 * n0 = 2 * n0 ∧ 2 * n1 = 2 * n1 ∧ 2 * n2 = 2 * n2 ∧ 2 * n3 = 2 * n3 ∧ ((n ≤ 1000000 ∧ SmF g (2 * n)) ∧
 W1 x ∧ W1 y ∧ W1 z ∧ W1 w) ∧ ((n0 ≤ 1000000 ∧ SmF g0 (2 * n0)) ∧ W1 x0 ∧ W1 y0 ∧ W1 z0 ∧
 W1 w0) ∧ ((n1 ≤ 1000000 ∧ SmF g1 (2 * n1)) ∧ W1 x1 ∧ W1 y1 ∧ W1 z1 ∧ W1 w1) ∧ ((n2 ≤ 1000000 ∧ SmF
 g2 (2 * n2)) ∧ W1 x2 ∧ W1 y2 ∧ W1 z2 ∧ W1 w2) ∧ ((n3 ≤ 1000000 ∧ SmF g3 (2 * n3)) ∧ W1 x3 ∧ W1 y3 ∧
 W1 z3 ∧ W1 w3) ∧ W1 px ∧ W1 py) ∧ (rP g n cl x y z w px py true && !rP g0 n0 cl0 x0 y0 z0 w0 px py false && !rP g1 n1 cl1 x1
 y1 z1 w1 px py false && !rP g2 n2 cl2 x2 y2 z2 w2 px py false && !rP g3 n3 cl3 x3 y3 z3 w3 px py false) = (rP g n cl x y z w px py true && !rP g0 n0 cl0 x0 y0 z0 w0 px py false
&& !rP g1 n1 cl1 x1 y1 z1 w1 px py false && !rP g2 n2 cl2 x2 y2 z2 w2 px py false && !rP g3 n3 cl3 x3 y3 z3 w3 px py false) ∧ True) := by kernel_rfl
theorem piq4 : ConOk Tryz.prog 168 (conR piq4C) := by
 refine con_of_vc gpiq4 Tryz.func168 rfl (by kernel_rfl) fun args => ?_
 unfold piq4C
 split
 · rename_i P px py
   intro o0
   show RdM.All _ (match po4 o0.c with | some (s, h) => _ | none => _) _
   split
   · rename_i s h hm0
     intro o1
     show RdM.All _ (match serOf o1.c with | some (cl, cw, cv, k, x, y, z, w, q, n) => _ | none => _) _
     split
     · rename_i cl cw cv k x y z w q n hm1
       intro o2
       show RdM.All _ (match fltsFrom .f64 o2.c with | some (m, g) => _ | none => _) _
       split
       · rename_i m2 g hm2
         intro o3
         show RdM.All _ (match ho4 o3.c with | some (e0, e1, e2, e3) => _ | none => _) _
         split
         · rename_i e0 e1 e2 e3 hm3
           intro o4
           show RdM.All _ (match serOf o4.c with | some (cl0, cw0, cv0, k0, x0, y0, z0, w0, q0, n0) => _ | none => _) _
           split
           · rename_i cl0 cw0 cv0 k0 x0 y0 z0 w0 q0 n0 hm4
             intro o5
             show RdM.All _ (match fltsFrom .f64 o5.c with | some (m, g) => _ | none => _) _
             split
             · rename_i m5 g0 hm5
               intro o6
               show RdM.All _ (match serOf o6.c with | some (cl1, cw1, cv1, k1, x1, y1, z1, w1, q1, n1) => _ | none => _) _
               split
               · rename_i cl1 cw1 cv1 k1 x1 y1 z1 w1 q1 n1 hm6
                 intro o7
                 show RdM.All _ (match fltsFrom .f64 o7.c with | some (m, g) => _ | none => _) _
                 split
                 · rename_i m7 g1 hm7
                   intro o8
                   show RdM.All _ (match serOf o8.c with | some (cl2, cw2, cv2, k2, x2, y2, z2, w2, q2, n2) => _ | none => _) _
                   split
                   · rename_i cl2 cw2 cv2 k2 x2 y2 z2 w2 q2 n2 hm8
                     intro o9
                     show RdM.All _ (match fltsFrom .f64 o9.c with | some (m, g) => _ | none => _) _
                     split
                     · rename_i m9 g2 hm9
                       intro o10
                       show RdM.All _ (match serOf o10.c with | some (cl3, cw3, cv3, k3, x3, y3, z3, w3, q3, n3) => _ | none => _) _
                       split
                       · rename_i cl3 cw3 cv3 k3 x3 y3 z3 w3 q3 n3 hm10
                         intro o11
                         show RdM.All _ (match fltsFrom .f64 o11.c with | some (m, g) => _ | none => _) _
                         split
                         · rename_i m11 g3 hm11
                           intro ho
                           replace ho : m2 = 2 * n ∧ m5 = 2 * n0 ∧ m7 = 2 * n1 ∧ m9 = 2 * n2 ∧ m11 = 2 * n3 ∧ ((n ≤ 1000000 ∧ SmF g (2 * n)) ∧ (W1 x ∧ W1 y ∧ W1 z ∧ W1 w)) ∧ ((n0 ≤ 1000000 ∧ SmF g0 (2 * n0)) ∧ (W1 x0 ∧ W1 y0 ∧ W1 z0 ∧ W1 w0)) ∧ ((n1 ≤ 1000000 ∧ SmF g1 (2 * n1)) ∧ (W1 x1 ∧ W1 y1 ∧ W1 z1 ∧ W1 w1)) ∧ ((n2 ≤ 1000000 ∧ SmF g2 (2 * n2)) ∧ (W1 x2 ∧ W1 y2 ∧ W1 z2 ∧ W1 w2)) ∧ ((n3 ≤ 1000000 ∧ SmF g3 (2 * n3)) ∧ (W1 x3 ∧ W1 y3 ∧ W1 z3 ∧ W1 w3)) ∧ W1 px ∧ W1 py := ho
                           obtain ⟨hsz2, hsz5, hsz7, hsz9, hsz11, ho⟩ := ho
                           subst hsz2
                           subst hsz5
                           subst hsz7
                           subst hsz9
                           subst hsz11
                           refine ⟨?_, _, _, (vc_piq4 cl cw cv k x y z w q n s h e0 e1 e2 e3 cl0 cw0 cv0 k0 x0 y0 z0 w0 q0 n0 cl1 cw1 cv1 k1 x1 y1 z1 w1 q1 n1 cl2 cw2 cv2 k2 x2 y2 z2 w2 q2 n2 cl3 cw3 cv3 k3 x3 y3 z3 w3 q3 n3 px py g g0 g1 g2 g3).mpr ?_⟩
                           · refine okFlag_mk rfl ⟨?_, ⟨trivial, po4_spec hm0 (by simp [sgSig, fsts, nth, sameN_self]) (by simp [sgSig, fsts, nth, sameN_self]), ⟨trivial, serOf_spec hm1 (by simp [sgSig, fsts, nth, sameN_self]), ⟨trivial, (contR_flts hm2).1, ⟨trivial, ho4_spec hm3 (by simp [sgSig, fsts, nth, sameN_self]) (by simp [sgSig, fsts, nth, sameN_self]) (by simp [sgSig, fsts, nth, sameN_self]) (by simp [sgSig, fsts, nth, sameN_self]), ⟨trivial, serOf_spec hm4 (by simp [sgSig, fsts, nth, sameN_self]), ⟨trivial, (contR_flts hm5).1, ⟨trivial, serOf_spec hm6 (by simp [sgSig, fsts, nth, sameN_self]), ⟨trivial, (contR_flts hm7).1, ⟨trivial, serOf_spec hm8 (by simp [sgSig, fsts, nth, sameN_self]), ⟨trivial, (contR_flts hm9).1, ⟨trivial, serOf_spec hm10 (by simp [sgSig, fsts, nth, sameN_self]), ⟨trivial, (contR_flts hm11).1, trivial⟩⟩⟩⟩⟩⟩⟩⟩⟩⟩⟩⟩⟩
                             simp [eqvRL, eqvR, fkEq_self, sgSig, fsts, nth, sameN_self]
                           · generalize rP g n cl x y z w px py true = r
                             generalize rP g0 n0 cl0 x0 y0 z0 w0 px py false = r0
                             generalize rP g1 n1 cl1 x1 y1 z1 w1 px py false = r1
                             generalize rP g2 n2 cl2 x2 y2 z2 w2 px py false = r2
                             generalize rP g3 n3 cl3 x3 y3 z3 w3 px py false = r3
                             cases r <;> cases r0 <;> cases r1 <;> cases r2 <;> cases r3 <;> simp [ho]
                         · trivial
                       · trivial
                     · trivial
                   · trivial
                 · trivial
               · trivial
             · trivial
           · trivial
         · trivial
       · trivial
     · trivial
   · trivial
 · trivial
noncomputable def G39T4 : Ctx := ⟨⟨tys, []⟩, [(64, conR optsC), (63, conR shP4C), (72, conR cornerC), (75, pureCon ptF), (171, conR pcq4C), (168, conR piq4C)]⟩
theorem g39T4 : CtxOk Tryz.prog G39T4 := ⟨⟨tysOk, FlatsOk.nil⟩, GamOk.cons opts (GamOk.cons shP4 (GamOk.cons corner (GamOk.cons (.pure pt) (GamOk.cons pcq4 (GamOk.cons piq4 GamOk.nil))))), by kernel_rfl⟩
noncomputable def asPt4C : List SV → RdM
 | [.agg [.int .i64 3, .slcc n len, .slcc h 4], .agg [.int .i64 0, .slcc m 1, .nils], .int .i64 0, .int .i64 0] => .read n fun o0 => (match intsFrom .i64 o0.c with
   | some (m0, g) => .read h fun o1 => (match hol4 o1.c with
   | some (q0, l0, q1, l1, q2, l2, q3, l3) => .read q0 fun o2 => (match intsFrom .i64 o2.c with
   | some (m2, g0) => .read q1 fun o3 => (match intsFrom .i64 o3.c with
   | some (m3, g1) => .read q2 fun o4 => (match intsFrom .i64 o4.c with
   | some (m4, g2) => .read q3 fun o5 => (match intsFrom .i64 o5.c with
   | some (m5, g3) => .read m fun o6 => (match intsFrom .i64 o6.c with
   | some (m6, gl) => .ret ⟨[.agg [.int .i64 3, .slcc 0 len, .slcc 1 4], .agg [.int .i64 0, .slcc 6 1, .nils], .int .i64 0, .int .i64 0], [(0, ⟨false, 23, .ints .i64 m0 g, 0⟩), (1, ⟨false, 25, .cells [.slcc 2 l0, .slcc 3 l1, .slcc 4 l2, .slcc 5 l3], 0⟩), (2, ⟨false, 23, .ints .i64 m2 g0, 0⟩), (3, ⟨false, 23, .ints .i64 m3 g1, 0⟩), (4, ⟨false, 23, .ints .i64 m4 g2, 0⟩), (5, ⟨false, 23, .ints .i64 m5 g3, 0⟩), (6, ⟨false, 23, .ints .i64 m6 gl, 0⟩)], .tup [.bool (vPt g len (gl 0) (gl 1) && !(vPf g0 l0 (gl 0) (gl 1)) && !(vPf g1 l1 (gl 0) (gl 1)) && !(vPf g2 l2 (gl 0) (gl 1)) && !(vPf g3 l3 (gl 0) (gl 1))), .bool (vPt g len (gl 0) (gl 1) && !(vPf g0 l0 (gl 0) (gl 1)) && !(vPf g1 l1 (gl 0) (gl 1)) && !(vPf g2 l2 (gl 0) (gl 1)) && !(vPf g3 l3 (gl 0) (gl 1)))], [], [], some (m0 = 2 * len ∧ m2 = 2 * l0 ∧ m3 = 2 * l1 ∧ m4 = 2 * l2 ∧ m5 = 2 * l3 ∧ m6 = 2 ∧ PO g len ∧ PO g0 l0 ∧ PO g1 l1 ∧ PO g2 l2 ∧ PO g3 l3 ∧ small (gl 0) ∧ small (gl 1))⟩
   | none => .fail)
   | none => .fail)
   | none => .fail)
   | none => .fail)
   | none => .fail)
   | none => .fail)
   | none => .fail)
 | _ => .fail
theorem vc_asPt4 (len : Nat) (l0 l1 l2 l3 : Nat) (_ _ _ _ : Nm)  (g : Nat → Int) (g0 : Nat → Int) (g1 : Nat → Int) (g2 : Nat → Int) (g3 : Nat → Int) (gl : Nat → Int) : runA G39T4 7 [] [] (codeOf Tryz.f39) (init Tryz.f39.ntmps [.agg [.int .i64 3, .slcc 0 len, .slcc 1 4], .agg [.int .i64 0, .slcc 6 1, .nils], .int .i64 0, .int .i64 0] [(0, ⟨false, 23, .ints .i64 (2 * len) g, 0⟩), (1, ⟨false, 25, .cells [.slcc 2 l0, .slcc 3 l1, .slcc 4 l2, .slcc 5 l3], 0⟩), (2, ⟨false, 23, .ints .i64 (2 * l0) g0, 0⟩), (3, ⟨false, 23, .ints .i64 (2 * l1) g1, 0⟩), (4, ⟨false, 23, .ints .i64 (2 * l2) g2, 0⟩), (5, ⟨false, 23, .ints .i64 (2 * l3) g3, 0⟩), (6, ⟨false, 23, .ints .i64 (2) gl, 0⟩)] 7) (endK G39T4.E.T Tryz.f39.results.toList fun S v => postP 7 ⟨[.agg [.int .i64 3, .slcc 0 len, .slcc 1 4], .agg [.int .i64 0, .slcc 6 1, .nils], .int .i64 0, .int .i64 0], [(0, ⟨false, 23, .ints .i64 (2 * len) g, 0⟩), (1, ⟨false, 25, .cells [.slcc 2 l0, .slcc 3 l1, .slcc 4 l2, .slcc 5 l3], 0⟩), (2, ⟨false, 23, .ints .i64 (2 * l0) g0, 0⟩), (3, ⟨false, 23, .ints .i64 (2 * l1) g1, 0⟩), (4, ⟨false, 23, .ints .i64 (2 * l2) g2, 0⟩), (5, ⟨false, 23, .ints .i64 (2 * l3) g3, 0⟩), (6, ⟨false, 23, .ints .i64 (2) gl, 0⟩)], .tup [.bool (vPt g len (gl 0) (gl 1) && !(vPf g0 l0 (gl 0) (gl 1)) && !(vPf g1 l1 (gl 0) (gl 1)) && !(vPf g2 l2 (gl 0) (gl 1)) && !(vPf g3 l3 (gl 0) (gl 1))), .bool (vPt g len (gl 0) (gl 1) && !(vPf g0 l0 (gl 0) (gl 1)) && !(vPf g1 l1 (gl 0) (gl 1)) && !(vPf g2 l2 (gl 0) (gl 1)) && !(vPf g3 l3 (gl 0) (gl 1)))], [], [], some (2 * len = 2 * len ∧ 2 * l0 = 2 * l0 ∧ 2 * l1 = 2 * l1 ∧ 2 * l2 = 2 * l2 ∧ 2 * l3 = 2 * l3 ∧ 2 = 2 ∧ PO g len ∧ PO g0 l0 ∧ PO g1 l1 ∧ PO g2 l2 ∧ PO g3 l3 ∧ small (gl 0) ∧ small (gl 1))⟩ S v) = (
 True ∧ (2 * len = 2 * len ∧ 2 * l0 = 2 * l0 ∧ 2 * l1 = 2 * l1 ∧ 2 * l2 = 2 * l2 ∧ 2 * l3 = 2 * l3 ∧ (0 : Int) = 0 ∧ (len ≤ 1000000 ∧
(ppBig len true = true → ppOk (fI g) len)) ∧ (l0 ≤ 1000000 ∧ (ppBig l0 true = true → ppOk (fI g0) l0)) ∧ (l1 ≤ 1000000 ∧
(ppBig l1 true = true → ppOk (fI g1) l1)) ∧ (l2 ≤ 1000000 ∧ (ppBig l2 true = true → ppOk (fI g2) l2)) ∧ l3 ≤ 1000000 ∧
(ppBig l3 true = true → ppOk (fI g3) l3)) ∧ (false = true → False) ∧ (false = false → (false = true → False) ∧ (false = false → (false = true → False) ∧ (false = false → (2 = 2 ∧
(0 : Int) ≤ 0) ∧ (2 * len = 2 * len ∧ 2 * l0 = 2 * l0 ∧ 2 * l1 = 2 * l1 ∧ 2 * l2 = 2 * l2 ∧ 2 * l3 = 2 * l3 ∧ ((len ≤ 1000000 ∧ SmF
(fI g) (2 * len)) ∧ W1 (pick (ppBig len true) (rlo (fI g) 0 len)) ∧ W1 (pick
(ppBig len true) (rlo (fI g) 1 len)) ∧ W1 (pick (ppBig len true) (rhi (fI g) 0 len)) ∧
 W1 (pick (ppBig len true) (rhi (fI g) 1 len))) ∧ ((l0 ≤ 1000000 ∧ SmF (fI g0) (2 * l0)) ∧
 W1 (pick (ppBig l0 true) (rlo (fI g0) 0 l0)) ∧ W1 (pick (ppBig l0 true) (rlo
(fI g0) 1 l0)) ∧ W1 (pick (ppBig l0 true) (rhi (fI g0) 0 l0)) ∧ W1 (pick
(ppBig l0 true) (rhi (fI g0) 1 l0))) ∧ ((l1 ≤ 1000000 ∧ SmF (fI g1) (2 * l1)) ∧ W1 (pick
(ppBig l1 true) (rlo (fI g1) 0 l1)) ∧ W1 (pick (ppBig l1 true) (rlo (fI g1) 1 l1)) ∧
 W1 (pick (ppBig l1 true) (rhi (fI g1) 0 l1)) ∧ W1 (pick (ppBig l1 true) (rhi
(fI g1) 1 l1))) ∧ ((l2 ≤ 1000000 ∧ SmF (fI g2) (2 * l2)) ∧ W1 (pick (ppBig l2 true) (rlo
(fI g2) 0 l2)) ∧ W1 (pick (ppBig l2 true) (rlo (fI g2) 1 l2)) ∧ W1 (pick
(ppBig l2 true) (rhi (fI g2) 0 l2)) ∧ W1 (pick (ppBig l2 true) (rhi (fI g2) 1 l2))) ∧ ((l3
≤ 1000000 ∧ SmF (fI g3) (2 * l3)) ∧ W1 (pick (ppBig l3 true) (rlo (fI g3) 0 l3)) ∧
 W1 (pick (ppBig l3 true) (rlo (fI g3) 1 l3)) ∧ W1 (pick (ppBig l3 true) (rhi
(fI g3) 0 l3)) ∧ W1 (pick (ppBig l3 true) (rhi (fI g3) 1 l3))) ∧ W1 (ofI .f64 (crn
 gl 1 (0 : Int) 0)) ∧ W1 (ofI .f64 (crn gl 1 (0 : Int) 1))) ∧ (2 * len = 2 * len ∧ 2 * l0 = 2 * l0 ∧ 2 * l1 = 2 * l1 ∧ 2
* l2 = 2 * l2 ∧ 2 * l3 = 2 * l3 ∧ ((len ≤ 1000000 ∧ SmF (fI g) (2 * len)) ∧ W1 (pick (ppBig len true)
(rlo (fI g) 0 len)) ∧ W1 (pick (ppBig len true) (rlo (fI g) 1 len)) ∧ W1
(pick (ppBig len true) (rhi (fI g) 0 len)) ∧ W1 (pick (ppBig len true) (rhi (fI
 g) 1 len))) ∧ ((l0 ≤ 1000000 ∧ SmF (fI g0) (2 * l0)) ∧ W1 (pick (ppBig l0 true) (rlo (fI g0) 0 l0)) ∧ W1 (pick (ppBig l0 true) (rlo (fI g0) 1 l0)) ∧ W1 (pick (ppBig l0 true)
(rhi (fI g0) 0 l0)) ∧ W1 (pick (ppBig l0 true) (rhi (fI g0) 1 l0))) ∧ ((l1 ≤ 1000000 ∧
 SmF (fI g1) (2 * l1)) ∧ W1 (pick (ppBig l1 true) (rlo (fI g1) 0 l1)) ∧ W1
(pick (ppBig l1 true) (rlo (fI g1) 1 l1)) ∧ W1 (pick (ppBig l1 true) (rhi (fI
 g1) 0 l1)) ∧ W1 (pick (ppBig l1 true) (rhi (fI g1) 1 l1))) ∧ ((l2 ≤ 1000000 ∧ SmF (fI g2) (2
* l2)) ∧ W1 (pick (ppBig l2 true) (rlo (fI g2) 0 l2)) ∧ W1 (pick (ppBig l2 true)
(rlo (fI g2) 1 l2)) ∧ W1 (pick (ppBig l2 true) (rhi (fI g2) 0 l2)) ∧ W1
(pick (ppBig l2 true) (rhi (fI g2) 1 l2))) ∧ ((l3 ≤ 1000000 ∧ SmF (fI g3) (2 * l3)) ∧ W1
(pick (ppBig l3 true) (rlo (fI g3) 0 l3)) ∧ W1 (pick (ppBig l3 true) (rlo (fI
 g3) 1 l3)) ∧ W1 (pick (ppBig l3 true) (rhi (fI g3) 0 l3)) ∧ W1 (pick (ppBig l3 true)
(rhi (fI g3) 1 l3))) ∧ W1 (ofI .f64 (crn gl 1 (0 : Int) 0)) ∧ W1 (ofI .f64 (crn gl 1 (0 : Int) 1))) ∧ true = true ∧ ((rP (fI g) len true (pick (ppBig len true) (rlo (fI g) 0 len)) (pick
(ppBig len true) (rlo (fI g) 1 len)) (pick (ppBig len true) (rhi (fI g) 0 len)) (pick
(ppBig len true) (rhi (fI g) 1 len)) (ofI .f64 (crn gl 1 (0 : Int) 0)) (ofI .f64 (crn gl 1 (0 : Int) 1))
 true && !rP (fI g0) l0 true (pick (ppBig l0 true) (rlo (fI g0) 0 l0)) (pick (ppBig l0 true)
(rlo (fI g0) 1 l0)) (pick (ppBig l0 true) (rhi (fI g0) 0 l0)) (pick (ppBig l0 true)
(rhi (fI g0) 1 l0)) (ofI .f64 (crn gl 1 (0 : Int) 0)) (ofI .f64 (crn gl 1 (0 : Int) 1)) false && !rP
(fI g1) l1 true (pick (ppBig l1 true) (rlo (fI g1) 0 l1)) (pick (ppBig l1 true) (rlo
(fI g1) 1 l1)) (pick (ppBig l1 true) (rhi (fI g1) 0 l1)) (pick (ppBig l1 true) (rhi
(fI g1) 1 l1)) (ofI .f64 (crn gl 1 (0 : Int) 0)) (ofI .f64 (crn gl 1 (0 : Int) 1)) false && !rP (fI g2) l2
 true (pick (ppBig l2 true) (rlo (fI g2) 0 l2)) (pick (ppBig l2 true) (rlo (fI g2) 1 l2))
(pick (ppBig l2 true) (rhi (fI g2) 0 l2)) (pick (ppBig l2 true) (rhi (fI g2) 1 l2))
(ofI .f64 (crn gl 1 (0 : Int) 0)) (ofI .f64 (crn gl 1 (0 : Int) 1)) false && !rP (fI g3) l3 true (pick
(ppBig l3 true) (rlo (fI g3) 0 l3)) (pick (ppBig l3 true) (rlo (fI g3) 1 l3)) (pick
(ppBig l3 true) (rhi (fI g3) 0 l3)) (pick (ppBig l3 true) (rhi (fI g3) 1 l3)) (ofI .f64
(crn gl 1 (0 : Int) 0)) (ofI .f64 (crn gl 1 (0 : Int) 1)) false) = (vPt g len (gl 0) (gl 1) && !vPf g0 l0 (gl 0) (gl
1) && !vPf g1 l1 (gl 0) (gl 1) && !vPf g2 l2 (gl 0) (gl 1) && !vPf g3 l3 (gl 0) (gl 1)) ∧ (rP (fI g) len
 true (pick (ppBig len true) (rlo (fI g) 0 len)) (pick (ppBig len true) (rlo (fI g) 1 len))
(pick (ppBig len true) (rhi (fI g) 0 len)) (pick (ppBig len true) (rhi (fI g) 1 len))
(ofI .f64 (crn gl 1 (0 : Int) 0)) (ofI .f64 (crn gl 1 (0 : Int) 1)) true && !rP (fI g0) l0 true (pick
(ppBig l0 true) (rlo (fI g0) 0 l0)) (pick (ppBig l0 true) (rlo (fI g0) 1 l0)) (pick
(ppBig l0 true) (rhi (fI g0) 0 l0)) (pick (ppBig l0 true) (rhi (fI g0) 1 l0)) (ofI .f64
(crn gl 1 (0 : Int) 0)) (ofI .f64 (crn gl 1 (0 : Int) 1)) false && !rP (fI g1) l1 true (pick (ppBig l1
 true) (rlo (fI g1) 0 l1)) (pick (ppBig l1 true) (rlo (fI g1) 1 l1)) (pick (ppBig l1 true)
(rhi (fI g1) 0 l1)) (pick (ppBig l1 true) (rhi (fI g1) 1 l1)) (ofI .f64 (crn gl 1 (0 : Int) 0)) (ofI .f64 (crn gl 1 (0 : Int) 1)) false && !rP (fI g2) l2 true (pick (ppBig l2 true) (rlo (fI
 g2) 0 l2)) (pick (ppBig l2 true) (rlo (fI g2) 1 l2)) (pick (ppBig l2 true) (rhi (fI g2) 0 l2)) (pick (ppBig l2 true) (rhi (fI g2) 1 l2)) (ofI .f64 (crn gl 1 (0 : Int) 0)) (ofI .f64 (crn gl
1 (0 : Int) 1)) false && !rP (fI g3) l3 true (pick (ppBig l3 true) (rlo (fI g3) 0 l3)) (pick
(ppBig l3 true) (rlo (fI g3) 1 l3)) (pick (ppBig l3 true) (rhi (fI g3) 0 l3)) (pick
(ppBig l3 true) (rhi (fI g3) 1 l3)) (ofI .f64 (crn gl 1 (0 : Int) 0)) (ofI .f64 (crn gl 1 (0 : Int) 1))
 false) = (vPt g len (gl 0) (gl 1) && !vPf g0 l0 (gl 0) (gl 1) && !vPf g1 l1 (gl 0) (gl 1) && !vPf g2 l2 (gl 0) (gl 1) && !vPf g3 l3 (gl 0) (gl 1)) ∧ True) ∧ True)))) := by kernel_rfl
theorem asPt4 : ConOk Tryz.prog 39 (conR asPt4C) := by
 refine con_of_vc g39T4 Tryz.func39 rfl (by kernel_rfl) fun args => ?_
 unfold asPt4C
 split
 · rename_i n len h m
   intro o0
   show RdM.All _ (match intsFrom .i64 o0.c with | some (m, g) => _ | none => _) _
   split
   · rename_i m0 g hm0
     intro o1
     show RdM.All _ (match hol4 o1.c with | some (q0, l0, q1, l1, q2, l2, q3, l3) => _ | none => _) _
     split
     · rename_i q0 l0 q1 l1 q2 l2 q3 l3 hm1
       intro o2
       show RdM.All _ (match intsFrom .i64 o2.c with | some (m, g) => _ | none => _) _
       split
       · rename_i m2 g0 hm2
         intro o3
         show RdM.All _ (match intsFrom .i64 o3.c with | some (m, g) => _ | none => _) _
         split
         · rename_i m3 g1 hm3
           intro o4
           show RdM.All _ (match intsFrom .i64 o4.c with | some (m, g) => _ | none => _) _
           split
           · rename_i m4 g2 hm4
             intro o5
             show RdM.All _ (match intsFrom .i64 o5.c with | some (m, g) => _ | none => _) _
             split
             · rename_i m5 g3 hm5
               intro o6
               show RdM.All _ (match intsFrom .i64 o6.c with | some (m, g) => _ | none => _) _
               split
               · rename_i m6 gl hm6
                 intro ho
                 replace ho : m0 = 2 * len ∧ m2 = 2 * l0 ∧ m3 = 2 * l1 ∧ m4 = 2 * l2 ∧ m5 = 2 * l3 ∧ m6 = 2 ∧ PO g len ∧ PO g0 l0 ∧ PO g1 l1 ∧ PO g2 l2 ∧ PO g3 l3 ∧ small (gl 0) ∧ small (gl 1) := ho
                 obtain ⟨hsz0, hsz2, hsz3, hsz4, hsz5, hsz6, ho⟩ := ho
                 subst hsz0
                 subst hsz2
                 subst hsz3
                 subst hsz4
                 subst hsz5
                 subst hsz6
                 refine ⟨?_, _, _, (vc_asPt4 len l0 l1 l2 l3 q0 q1 q2 q3 g g0 g1 g2 g3 gl).mpr ?_⟩
                 · refine okFlag_mk rfl ⟨?_, ⟨trivial, (contR_ints hm0).1, ⟨trivial, hol4_spec hm1 (by simp [sgSig, fsts, nth, sameN_self]) (by simp [sgSig, fsts, nth, sameN_self]) (by simp [sgSig, fsts, nth, sameN_self]) (by simp [sgSig, fsts, nth, sameN_self]), ⟨trivial, (contR_ints hm2).1, ⟨trivial, (contR_ints hm3).1, ⟨trivial, (contR_ints hm4).1, ⟨trivial, (contR_ints hm5).1, ⟨trivial, (contR_ints hm6).1, trivial⟩⟩⟩⟩⟩⟩⟩⟩
                   simp [eqvRL, eqvR, kEq_self, sgSig, fsts, nth, sameN_self]
                 · obtain ⟨h1, a0, a1, a2, a3, h2⟩ := ho
                   have c0 : crn gl 1 0 0 = gl 0 := rfl
                   have c1 : crn gl 1 0 1 = gl 1 := rfl
                   simp only [true_and, and_true, eq_self, true_implies, c0, c1, Bool.false_eq_true, false_implies]
                   exact ⟨⟨⟨h1.len, fun hb => h1.ppOk hb⟩, ⟨a0.len, fun hb => a0.ppOk hb⟩, ⟨a1.len, fun hb => a1.ppOk hb⟩, ⟨a2.len, fun hb => a2.ppOk hb⟩, ⟨a3.len, fun hb => a3.ppOk hb⟩⟩, by decide, ⟨h1.ob, a0.ob, a1.ob, a2.ob, a3.ob, (w1_fI h2.1).1, (w1_fI h2.2).1⟩, ⟨h1.ob, a0.ob, a1.ob, a2.ob, a3.ob, (w1_fI h2.1).1, (w1_fI h2.2).1⟩, rfl, rfl⟩
               · trivial
             · trivial
           · trivial
         · trivial
       · trivial
     · trivial
   · trivial
 · trivial
set_option maxHeartbeats 4000000
def tIx (len by' : Nat) (bk : Bool) (i : Nat) : Nat := if bk = true then len - 1 - (i + by') % len else (i + by') % len
def tG (g : Nat → Int) (len by' : Nat) (bk : Bool) (j : Nat) : Int := g (2 * tIx len by' bk (j / 2) + j % 2)
theorem tG_at {g : Nat → Int} {len by' : Nat} {bk : Bool} (i : Nat) : tG g len by' bk (2 * i) = g (2 * tIx len by' bk i) ∧ tG g len by' bk (2 * i + 1) = g (2 * tIx len by' bk i + 1) := by
 have h1 : 2 * i / 2 = i := by omega
 have h2 : 2 * i % 2 = 0 := by omega
 have h3 : (2 * i + 1) / 2 = i := by omega
 have h4 : (2 * i + 1) % 2 = 1 := by omega
 unfold tG
 rw [h1, h2, h3, h4]
 exact ⟨rfl, rfl⟩
def tr3 (len by' : Nat) (bk : Bool) (g : Nat → Int) : Fam := ⟨Nat, fun i =>
 ⟨36, [(0, .slcc 0 len), (1, .int .i64 by'), (2, .bool bk), (7, .slcc 1 i), (11, .int .i64 len), (12, .int .i64 i)], [(0, ⟨false, 28, .ints .i64 (2 * len) g, 0⟩), (1, ⟨true, 28, .ints .i64 (2 * i) (tG g len by' bk), 2⟩)], 2⟩, fun i => i ≤ len, fun i => len - i⟩
noncomputable def turnedC : List SV → RdM
 | [.slcc n len, .int .i64 byI, v] => .read n fun o0 => (match intsFrom .i64 o0.c with
   | some (m0, g) => (match v.toB with
   | some bk => .ret ⟨[.slcc 0 len, .int .i64 byI, .bool bk], [(0, ⟨false, 28, .ints .i64 m0 g, 0⟩)], .slcc 1 len, [], [(1, ⟨true, 28, .ints .i64 (2 * len) (tG g len byI.toNat bk), 2⟩)], some (m0 = 2 * len ∧ len ≤ 1000000 ∧ 0 ≤ byI ∧ byI ≤ 1000000)⟩
   | none => .fail)
   | none => .fail)
 | _ => .fail
theorem vc_turned (len : Nat) (byI : Int) (bk : Bool)  (g : Nat → Int) : runA G0 1 [(3, tr3 len byI.toNat bk g)] [] (codeOf Tryz.f47) (init Tryz.f47.ntmps [.slcc 0 len, .int .i64 byI, .bool bk] [(0, ⟨false, 28, .ints .i64 (2 * len) g, 0⟩)] 1) (endK G0.E.T Tryz.f47.results.toList fun S v => postP 1 ⟨[.slcc 0 len, .int .i64 byI, .bool bk], [(0, ⟨false, 28, .ints .i64 (2 * len) g, 0⟩)], .slcc 1 len, [], [(1, ⟨true, 28, .ints .i64 (2 * len) (tG g len byI.toNat bk), 2⟩)], some (2 * len = 2 * len ∧ len ≤ 1000000 ∧ 0 ≤ byI ∧ byI ≤ 1000000)⟩ S v) = (
(∃ (i : Nat), i ≤ len ∧ ((True ∧ len = len) ∧ byI = (↑(Int.toNat byI) : Int) ∧ bk = bk ∧ i = 0 ∧ (↑len : Int) = (↑len : Int) ∧ 0 = (↑i : Int) ∧ True) ∧ True ∧ (2 * len ≤ 2 * len ∧ ∀ (i : Nat), i < 2 * len → g i
= g i) ∧ True ∧ 2 * i = 0 ∧ True) ∧ ∀ (i : Nat), i ≤ len → (decide ((↑i : Int) < (↑len : Int)) = true → (↑len : Int) ≠ 0 ∧ (bk = true → (((0 : Int) ≤ Go.IntKind.wrap .i64 (Go.IntKind.wrap .i64 ((↑len : Int) - 1) -
 Int.tmod (Go.IntKind.wrap .i64 ((↑i : Int) + (↑(Int.toNat byI) : Int))) (↑len : Int)) ∧ Go.IntKind.wrap .i64 (Go.IntKind.wrap .i64 ((↑len : Int) - 1) - Int.tmod (Go.IntKind.wrap .i64 ((↑i : Int) + (↑(Int.toNat byI) : Int))) (↑len : Int)) <
(↑len : Int)) ∧ 1 ≤ 2 * len) ∧ 0 + Int.toNat (Go.IntKind.wrap .i64 (Go.IntKind.wrap .i64 ((↑len : Int) - 1) - Int.tmod (Go.IntKind.wrap .i64 ((↑i : Int) + (↑(Int.toNat byI) : Int))) (↑len : Int))) * 2 + 2 ≤ 2 * len ∧ (2 * i = i * 2 ∧ (i + 1) * 16 ≤ 140737488355328 ∧ i + 1 ≤ 9223372036854775807) ∧ ∃ (i' : Nat), i' ≤ len ∧ len - i' < len - i ∧ ((True ∧ len = len) ∧ (↑(Int.toNat byI) :
 Int) = (↑(Int.toNat byI) : Int) ∧ bk = bk ∧ (True ∧ i + 1 = i') ∧ (↑len : Int) = (↑len : Int) ∧ Go.IntKind.wrap .i64 ((↑i : Int) + 1) = (↑i' : Int) ∧ True) ∧ True ∧ (2 * len ≤ 2 * len ∧ ∀ (i : Nat), i < 2 * len
→ g i = g i) ∧ True ∧ (28 = 28 ∧ 2 = 2 ∧ 2 * i' ≤ 2 * i + List.length [g (0 + Int.toNat (Go.IntKind.wrap .i64 (Go.IntKind.wrap .i64 ((↑len : Int) - 1) - Int.tmod (Go.IntKind.wrap .i64
((↑i : Int) + (↑(Int.toNat byI) : Int))) (↑len : Int))) * 2), g (0 + Int.toNat (Go.IntKind.wrap .i64 (Go.IntKind.wrap .i64 ((↑len : Int) - 1) - Int.tmod (Go.IntKind.wrap .i64 ((↑i : Int) + (↑(Int.toNat byI) : Int))) (↑len :
 Int))) * 2 + 1)] ∧ ∀ (i_1 : Nat), i_1 < 2 * i' → more (2 * i) (tG g len (Int.toNat byI) bk) [g (0 + Int.toNat (Go.IntKind.wrap .i64 (Go.IntKind.wrap .i64 ((↑len : Int) - 1) -
 Int.tmod (Go.IntKind.wrap .i64 ((↑i : Int) + (↑(Int.toNat byI) : Int))) (↑len : Int))) * 2), g (0 + Int.toNat (Go.IntKind.wrap .i64 (Go.IntKind.wrap .i64 ((↑len : Int) - 1) - Int.tmod (Go.IntKind.wrap .i64 ((↑i : Int) +
(↑(Int.toNat byI) : Int))) (↑len : Int))) * 2 + 1)] (0 : Int) i_1 = tG g len (Int.toNat byI) bk i_1) ∧ True) ∧ (bk = false → (((0 : Int) ≤ Int.tmod (Go.IntKind.wrap .i64 ((↑i : Int) + (↑(Int.toNat byI) : Int))) (↑len
: Int) ∧ Int.tmod (Go.IntKind.wrap .i64 ((↑i : Int) + (↑(Int.toNat byI) : Int))) (↑len : Int) < (↑len : Int)) ∧ 1 ≤ 2 * len) ∧ 0 + Int.toNat (Int.tmod (Go.IntKind.wrap .i64 ((↑i : Int) + (↑(Int.toNat byI) : Int))) (↑len :
 Int)) * 2 + 2 ≤ 2 * len ∧ (2 * i = i * 2 ∧ (i + 1) * 16 ≤ 140737488355328 ∧ i + 1 ≤ 9223372036854775807) ∧ ∃ (i' : Nat), i' ≤ len ∧ len - i' < len - i ∧ ((True ∧ len =
 len) ∧ (↑(Int.toNat byI) : Int) = (↑(Int.toNat byI) : Int) ∧ bk = bk ∧ (True ∧ i + 1 = i') ∧ (↑len : Int) = (↑len : Int) ∧ Go.IntKind.wrap .i64 ((↑i : Int) + 1) = (↑i' : Int) ∧ True) ∧ True ∧ (2 * len ≤ 2 * len ∧ ∀ (i
: Nat), i < 2 * len → g i = g i) ∧ True ∧ (28 = 28 ∧ 2 = 2 ∧ 2 * i' ≤ 2 * i + List.length [g (0 + Int.toNat (Int.tmod (Go.IntKind.wrap .i64 ((↑i : Int) + (↑(Int.toNat byI) : Int))) (↑len
: Int)) * 2), g (0 + Int.toNat (Int.tmod (Go.IntKind.wrap .i64 ((↑i : Int) + (↑(Int.toNat byI) : Int))) (↑len : Int)) * 2 + 1)] ∧ ∀ (i_1 : Nat), i_1 < 2 * i' → more (2 * i) (tG g
 len (Int.toNat byI) bk) [g (0 + Int.toNat (Int.tmod (Go.IntKind.wrap .i64 ((↑i : Int) + (↑(Int.toNat byI) : Int))) (↑len : Int)) * 2), g (0 + Int.toNat (Int.tmod (Go.IntKind.wrap .i64 ((↑i : Int) + (↑(Int.toNat byI) : Int)))
(↑len : Int)) * 2 + 1)] (0 : Int) i_1 = tG g len (Int.toNat byI) bk i_1) ∧ True)) ∧ (decide ((↑i : Int) < (↑len : Int)) = false → (True ∧ i = len) ∧ True ∧ (28 = 28 ∧ 2 = 2 ∧ 2
* len ≤ 2 * i ∧ ∀ (i : Nat), i < 2 * len → tG g len (Int.toNat byI) bk i = tG g len (Int.toNat byI) bk i) ∧ True)) := by kernel_rfl
theorem turned : ConOk Tryz.prog 47 (conR turnedC) := by
 refine con_of_vc g0 Tryz.func47 rfl (by kernel_rfl) fun args => ?_
 unfold turnedC
 split
 · rename_i n len byI v
   intro o0
   show RdM.All _ (match intsFrom .i64 o0.c with | some (m, g) => _ | none => _) _
   split
   · rename_i m0 g hm0
     show RdM.All _ (match v.toB with | some b => _ | none => _) _
     split
     · rename_i bk hbk
       intro ho
       replace ho : m0 = 2 * len ∧ len ≤ 1000000 ∧ 0 ≤ byI ∧ byI ≤ 1000000 := ho
       obtain ⟨hsz0, ho⟩ := ho
       subst hsz0
       refine ⟨?_, _, _, (vc_turned len byI bk g).mpr ?_⟩
       · refine okFlag_mk rfl ⟨?_, ⟨trivial, (contR_ints hm0).1, trivial⟩⟩
         simp [eqvRL, eqvR, kEq_self, sgSig, fsts, nth, sameN_self, toB_eqvR hbk]
       · obtain ⟨hl, hb0, hb1⟩ := ho
         obtain ⟨b, rfl⟩ : ∃ b : Nat, byI = b := ⟨byI.toNat, by omega⟩
         simp only [true_and, and_true, eq_self, Nat.le_refl, implies_true, Int.toNat_natCast]
         refine ⟨⟨0, by omega, by simp⟩, fun i hi => ⟨fun h => ?_, fun h => ?_⟩⟩
         · have h := of_decide_eq_true h
           have hil : i < len := by omega
           have hw : IntKind.i64.wrap ((i : Int) + 1) = ((i + 1 : Nat) : Int) := by rw [wrap64 (by omega) (by omega)]; omega
           have hlt : (i + b) % len < len := Nat.mod_lt _ (by omega)
           have hm : Int.tmod (IntKind.i64.wrap ((i : Int) + (b : Int))) (len : Int) = (((i + b) % len : Nat) : Int) := by
             rw [wrap64 (by omega) (by omega), show (i : Int) + (b : Int) = ((i + b : Nat) : Int) by omega]
             exact (Int.ofNat_tmod (i + b) len).symm
           have hk : IntKind.i64.wrap (IntKind.i64.wrap ((len : Int) - 1) - (((i + b) % len : Nat) : Int)) = ((len - 1 - (i + b) % len : Nat) : Int) := by
             rw [wrap64 (n := (len : Int) - 1) (by omega) (by omega), wrap64 (by omega) (by omega)]; omega
           simp only [hm, hk, hw, Int.toNat_natCast]
           have at1 := tG_at (g := g) (len := len) (by' := b) (bk := bk) i
           refine ⟨by omega, fun q => ?_, fun q => ?_⟩
           · have e : tIx len b bk i = len - 1 - (i + b) % len := if_pos q
             rw [e] at at1
             refine ⟨⟨⟨by omega, by omega⟩, by omega⟩, by omega, ⟨by omega, by omega, by omega⟩, i + 1, by omega, by omega, ⟨rfl, rfl⟩, ?_, ?_⟩
             · show 2 * (i + 1) ≤ 2 * i + 2
               omega
             · exact more_two (by rw [at1.1]; congr 1; omega) (by rw [at1.2]; congr 1; omega)
           · have e : tIx len b bk i = (i + b) % len := if_neg (by rw [q]; decide)
             rw [e] at at1
             refine ⟨⟨⟨by omega, by omega⟩, by omega⟩, by omega, ⟨by omega, by omega, by omega⟩, i + 1, by omega, by omega, ⟨rfl, rfl⟩, ?_, ?_⟩
             · show 2 * (i + 1) ≤ 2 * i + 2
               omega
             · exact more_two (by rw [at1.1]; congr 1; omega) (by rw [at1.2]; congr 1; omega)
         · have h := of_decide_eq_false h
           have : i = len := by omega
           subst this
           simp
     · trivial
   · trivial
 · trivial
noncomputable def polyPtC : List SV → RdM
 | [.agg [.int .i64 x, .int .i64 y]] => .ret ⟨[.agg [.int .i64 x, .int .i64 y]], [], .agg [.int .i64 0, .slcc 0 1, .nils], [], [(0, ⟨true, 23, .cells [.int .i64 x, .int .i64 y], 2⟩)], some (True)⟩
 | _ => .fail
theorem vc_polyPt (x y : Int) : runA G0 0 [] [] (codeOf Tryz.f49) (init Tryz.f49.ntmps [.agg [.int .i64 x, .int .i64 y]] [] 0) (endK G0.E.T Tryz.f49.results.toList fun S v => postP 0 ⟨[.agg [.int .i64 x, .int .i64 y]], [], .agg [.int .i64 0, .slcc 0 1, .nils], [], [(0, ⟨true, 23, .cells [.int .i64 x, .int .i64 y], 2⟩)], some (True)⟩ S v) = (
((0 : Int) = 0 ∧ (True ∧ 1 = 1) ∧ True ∧ True) ∧ True ∧ (23 = 23 ∧ 2 = 2 ∧ x = x ∧ y = y ∧ True) ∧ True) := by kernel_rfl
theorem polyPt : ConOk Tryz.prog 49 (conR polyPtC) := by
 refine con_of_vc g0 Tryz.func49 rfl (by kernel_rfl) fun args => ?_
 unfold polyPtC
 split
 · rename_i x y
   intro ho
   replace ho : True := ho
   refine ⟨?_, _, _, (vc_polyPt x y).mpr ?_⟩
   · refine okFlag_mk rfl ⟨?_, trivial⟩
     simp [eqvRL, eqvR, kEq_self]
   · simp
 · trivial
end Go.Proofs.Tryz.Sx

namespace Go.Proofs.Tryz.Sx
open Go Go.Sx Go.Proofs Go.Fl Go.Geo
theorem anyB_iff {p : Nat → Bool} : ∀ {m : Nat}, anyB p m = true ↔ ∃ i, i < m ∧ p i = true
 | 0 => ⟨fun h => (nomatch h), fun ⟨i, hi, _⟩ => by omega⟩
 | m + 1 => by
   constructor
   · intro h
     have h : (anyB p m || p m) = true := h
     rw [Bool.or_eq_true] at h
     rcases h with h | h
     · obtain ⟨i, hi, hp⟩ := anyB_iff.1 h
       exact ⟨i, by omega, hp⟩
     · exact ⟨m, by omega, h⟩
   · rintro ⟨i, hi, hp⟩
     exact anyB_of hi hp
theorem rs_any {on lf : Nat → Bool} : ∀ m, (rsR on lf m).1 = anyB on m ∧ (anyB on m = false → (rsR on lf m).2 = par lf m)
 | 0 => ⟨rfl, fun _ => rfl⟩
 | m + 1 => by
   obtain ⟨h1, h2⟩ := rs_any (on := on) (lf := lf) m
   have er : rsR on lf (m + 1) = if (rsR on lf m).1 = true then rsR on lf m else if on m = true then (true, (rsR on lf m).2) else (false, (rsR on lf m).2 != lf m) := rfl
   have ea : anyB on (m + 1) = (anyB on m || on m) := rfl
   have ep : par lf (m + 1) = (par lf m != lf m) := rfl
   rw [er, ea, ep, h1]
   cases e : anyB on m with
   | true =>
     rw [if_pos rfl, h1, e]
     exact ⟨rfl, fun h => (nomatch h)⟩
   | false =>
     rw [if_neg (by decide), h2 e]
     cases on m with
     | true => exact ⟨rfl, fun h => (nomatch h)⟩
     | false => exact ⟨rfl, fun _ => rfl⟩
def rsX (a p : Bool) : Int := if a = true then 0 else if p = true then 1 else -1
theorem rs_X {on lf : Nat → Bool} (m : Nat) : rsV (rsR on lf m) = rsX (anyB on m) (par lf m) := by
 obtain ⟨h1, h2⟩ := rs_any (on := on) (lf := lf) m
 unfold rsV rsX
 rw [h1]
 cases e : anyB on m with
 | true => rfl
 | false => rw [h2 e]
theorem Lft_swap {a1 a2 b1 b2 p1 p2 : Int} : Lft a1 a2 b1 b2 p1 p2 ↔ Lft b1 b2 a1 a2 p1 p2 := by
 unfold Lft
 generalize cross a1 a2 b1 b2 p1 p2 = c
 generalize cross b1 b2 a1 a2 p1 p2 = d
 omega
def onP (g : Nat → Int) (x y : Int) (i j : Nat) : Bool := decide (On (g (2 * i)) (g (2 * i + 1)) (g (2 * j)) (g (2 * j + 1)) x y)
def lfP (g : Nat → Int) (x y : Int) (i j : Nat) : Bool := decide (Lft (g (2 * i)) (g (2 * i + 1)) (g (2 * j)) (g (2 * j + 1)) x y)
theorem onP_swap {g : Nat → Int} {x y : Int} {i j : Nat} : onP g x y i j = onP g x y j i := decide_eq_decide.2 On_swap
theorem lfP_swap {g : Nat → Int} {x y : Int} {i j : Nat} : lfP g x y i j = lfP g x y j i := decide_eq_decide.2 Lft_swap
theorem par_congr {f h : Nat → Bool} : ∀ {m : Nat}, (∀ i, i < m → f i = h i) → par f m = par h m
 | 0, _ => rfl
 | m + 1, e => by
   show (par f m != f m) = (par h m != h m)
   rw [par_congr fun i hi => e i (by omega), e m (by omega)]
theorem anyB_congr {f h : Nat → Bool} : ∀ {m : Nat}, (∀ i, i < m → f i = h i) → anyB f m = anyB h m
 | 0, _ => rfl
 | m + 1, e => by
   show (anyB f m || f m) = (anyB h m || h m)
   rw [anyB_congr fun i hi => e i (by omega), e m (by omega)]
theorem par_shift {f : Nat → Bool} : ∀ m, par f (m + 1) = (f 0 != par (fun i => f (i + 1)) m)
 | 0 => by
   show (false != f 0) = (f 0 != false)
   cases f 0 <;> rfl
 | m + 1 => by
   have e1 : par f (m + 1 + 1) = (par f (m + 1) != f (m + 1)) := rfl
   have e2 : par (fun i => f (i + 1)) (m + 1) = (par (fun i => f (i + 1)) m != f (m + 1)) := rfl
   rw [e1, e2, par_shift m]
   cases f 0 <;> cases par (fun i => f (i + 1)) m <;> cases f (m + 1) <;> rfl
theorem par_rot1 {f : Nat → Bool} {n : Nat} (hn : 0 < n) : par (fun i => f ((i + 1) % n)) n = par f n := by
 obtain ⟨m, rfl⟩ : ∃ m, n = m + 1 := ⟨n - 1, by omega⟩
 rw [par_shift (f := f)]
 show (par (fun i => f ((i + 1) % (m + 1))) m != f ((m + 1) % (m + 1))) = _
 rw [par_congr (h := fun i => f (i + 1)) fun i hi => by show f _ = f _; rw [Nat.mod_eq_of_lt (by omega)], Nat.mod_self]
 cases f 0 <;> cases par (fun i => f (i + 1)) m <;> rfl
theorem par_rot {f : Nat → Bool} {n : Nat} (hn : 0 < n) : ∀ k, par (fun i => f ((i + k) % n)) n = par f n
 | 0 => par_congr fun i hi => by show f _ = f _; rw [Nat.add_zero, Nat.mod_eq_of_lt hi]
 | k + 1 => by
   refine Eq.trans ?_ ((par_rot1 (f := fun i => f ((i + k) % n)) hn).trans (par_rot hn k))
   refine par_congr fun i hi => ?_
   show f _ = f _
   congr 1
   rw [Nat.mod_add_mod]
   congr 1
   omega
theorem par_rev {f : Nat → Bool} : ∀ m, par (fun i => f (m - 1 - i)) m = par f m
 | 0 => rfl
 | m + 1 => by
   rw [par_shift]
   have : par (fun i => f (m + 1 - 1 - (i + 1))) m = par f m := by
     rw [← par_rev m]
     exact par_congr fun i hi => by show f _ = f _; congr 1; omega
   rw [this]
   show (f m != par f m) = (par f m != f m)
   cases f m <;> cases par f m <;> rfl
section
variable {g : Nat → Int} {n : Nat} (h3 : 3 ≤ n) (x y : Int)
include h3
theorem rg_all : rgS g n x y = rsX (anyB (fun i => onP g x y i (nx n i)) n) (par (fun i => lfP g x y i (nx n i)) n) := by
 have ho : ∀ i, i < n → onZ g n x y i = onP g x y i (nx n i) := fun i hi => by
   obtain ⟨a0, a1, a2, a3⟩ := eZ_at (g := g) hi
   unfold onZ onP
   rw [a0, a1, a2, a3]
 have hl : ∀ i, i < n → lfZ g n x y i = lfP g x y i (nx n i) := fun i hi => by
   obtain ⟨a0, a1, a2, a3⟩ := eZ_at (g := g) hi
   unfold lfZ lfP
   rw [a0, a1, a2, a3]
 unfold rgS
 rw [rs_X]
 rcases ns_cases (g := g) h3 with e | ⟨e, e1, e2⟩
 · rw [e, anyB_congr ho, par_congr hl]
 · rw [e, anyB_congr (fun i hi => ho i (by omega)), par_congr (fun i hi => hl i (by omega))]
   have hx : nx n (n - 1) = 0 := if_pos (by omega)
   have c1 : g (2 * (n - 1)) = g 0 := by rw [← e1]; congr 1; omega
   have c2 : g (2 * (n - 1) + 1) = g 1 := by rw [← e2]; congr 1; omega
   have l0 : lfP g x y (n - 1) (nx n (n - 1)) = false := by
     rw [hx]
     refine decide_eq_false fun hh => ?_
     unfold Lft at hh
     simp only [c1, c2, Nat.mul_zero, Nat.zero_add] at hh
     omega
   have ea : anyB (fun i => onP g x y i (nx n i)) n = (anyB (fun i => onP g x y i (nx n i)) (n - 1) || onP g x y (n - 1) (nx n (n - 1))) := by
     rw [show n = (n - 1) + 1 by omega]; rfl
   have ep : par (fun i => lfP g x y i (nx n i)) n = (par (fun i => lfP g x y i (nx n i)) (n - 1) != lfP g x y (n - 1) (nx n (n - 1))) := by
     obtain ⟨m, rfl⟩ : ∃ m, n = m + 1 := ⟨n - 1, by omega⟩
     rfl
   rw [ea, ep, l0]
   congr 1
   · cases u : onP g x y (n - 1) (nx n (n - 1)) with
     | false => simp
     | true =>
       have u := of_decide_eq_true u
       simp only [hx, c1, c2, Nat.mul_zero, Nat.zero_add] at u
       have : anyB (fun i => onP g x y i (nx n i)) (n - 1) = true := by
         refine anyB_of (i := 0) (by omega) (decide_eq_true ?_)
         obtain ⟨u1, u2, _⟩ := u
         unfold btw at u1 u2
         have f1 : x = g 0 := by omega
         have f2 : y = g 1 := by omega
         simp only [Nat.mul_zero, Nat.zero_add]
         refine ⟨?_, ?_, ?_⟩
         · unfold btw; omega
         · unfold btw; omega
         · rw [f1, f2]; unfold cross; simp
       rw [this]
       rfl
   · cases par (fun i => lfP g x y i (nx n i)) (n - 1) <;> rfl
end
theorem nx_mod {n i : Nat} (hi : i < n) : nx n i = (i + 1) % n := by
 unfold nx
 split
 · rename_i h; rw [h, Nat.mod_self]
 · rw [Nat.mod_eq_of_lt (by omega)]
theorem rg_turn {g : Nat → Int} {n k : Nat} (h3 : 3 ≤ n) (bk : Bool) (x y : Int) : rgS (tG g n k bk) n x y = rgS g n x y := by
 have h0 : 0 < n := by omega
 rw [rg_all h3, rg_all h3]
 have ho : ∀ i j, onP (tG g n k bk) x y i j = onP g x y (tIx n k bk i) (tIx n k bk j) := fun i j => by
   unfold onP
   rw [(tG_at i).1, (tG_at i).2, (tG_at j).1, (tG_at j).2]
 have hl : ∀ i j, lfP (tG g n k bk) x y i j = lfP g x y (tIx n k bk i) (tIx n k bk j) := fun i j => by
   unfold lfP
   rw [(tG_at i).1, (tG_at i).2, (tG_at j).1, (tG_at j).2]
 simp only [ho, hl]
 have hm : ∀ i, (i + k) % n < n := fun i => Nat.mod_lt _ h0
 have hs : ∀ i, i < n → (nx n i + k) % n = ((i + k) % n + 1) % n := fun i hi => by
   rw [nx_mod hi, Nat.mod_add_mod, Nat.mod_add_mod]
   congr 1
   omega
 cases bk with
 | false =>
   have et : ∀ i, tIx n k false i = (i + k) % n := fun i => rfl
   have e1 : ∀ (f : Nat → Nat → Bool) i, i < n → f (tIx n k false i) (tIx n k false (nx n i)) = (fun j => f j (nx n j)) ((i + k) % n) := fun f i hi => by
     show f _ _ = f _ _
     rw [et, et, hs i hi, nx_mod (hm i)]
   rw [par_congr (e1 (lfP g x y)), par_rot (f := fun j => lfP g x y j (nx n j)) h0, anyB_congr (e1 (onP g x y))]
   congr 1
   rw [Bool.eq_iff_iff, anyB_iff, anyB_iff]
   constructor
   · rintro ⟨i, hi, hp⟩
     exact ⟨_, hm i, hp⟩
   · rintro ⟨j, hj, hp⟩
     refine ⟨(j + (n - k % n)) % n, Nat.mod_lt _ h0, ?_⟩
     have : ((j + (n - k % n)) % n + k) % n = j := by
       rw [Nat.mod_add_mod]
       have hk : k % n < n := Nat.mod_lt _ h0
       have e : j + (n - k % n) + k = j + n * (1 + k / n) := by
         have := Nat.div_add_mod k n
         rw [Nat.mul_add]
         omega
       rw [e, Nat.add_mul_mod_self_left, Nat.mod_eq_of_lt hj]
     show onP g x y _ _ = true
     simp only [this]
     exact hp
 | true =>
   have et : ∀ i, tIx n k true i = n - 1 - (i + k) % n := fun i => rfl
   have e1 : ∀ (f : Nat → Nat → Bool), (∀ a b, f a b = f b a) → ∀ i, i < n → f (tIx n k true i) (tIx n k true (nx n i)) = (fun j => (fun q => f q (nx n q)) (n - 1 - j)) ((i + (k + 1)) % n) := fun f hf i hi => by
     show f _ _ = f _ _
     have e : (i + (k + 1)) % n = ((i + k) % n + 1) % n := by
       rw [Nat.mod_add_mod]
       congr 1
     rw [et, et, hs i hi, e, hf]
     generalize ha : (i + k) % n = a
     have hal : a < n := ha ▸ hm i
     congr 1
     by_cases u : a + 1 = n
     · rw [u, Nat.mod_self]
       unfold nx
       rw [if_pos (by omega)]
       omega
     · rw [Nat.mod_eq_of_lt (by omega)]
       unfold nx
       rw [if_neg (by omega)]
       omega
   rw [par_congr (e1 (lfP g x y) fun _ _ => lfP_swap), par_rot (f := fun j => (fun q => lfP g x y q (nx n q)) (n - 1 - j)) h0, par_rev (f := fun q => lfP g x y q (nx n q)), anyB_congr (e1 (onP g x y) fun _ _ => onP_swap)]
   congr 1
   rw [Bool.eq_iff_iff, anyB_iff, anyB_iff]
   constructor
   · rintro ⟨i, _, hp⟩
     exact ⟨_, by omega, hp⟩
   · rintro ⟨j, hj, hp⟩
     refine ⟨(n - 1 - j + (n - (k + 1) % n)) % n, Nat.mod_lt _ h0, ?_⟩
     have : ((n - 1 - j + (n - (k + 1) % n)) % n + (k + 1)) % n = n - 1 - j := by
       rw [Nat.mod_add_mod]
       have hk : (k + 1) % n < n := Nat.mod_lt _ h0
       have e : n - 1 - j + (n - (k + 1) % n) + (k + 1) = (n - 1 - j) + n * (1 + (k + 1) / n) := by
         have := Nat.div_add_mod (k + 1) n
         rw [Nat.mul_add]
         omega
       rw [e, Nat.add_mul_mod_self_left, Nat.mod_eq_of_lt (by omega)]
     show onP g x y _ _ = true
     simp only [this, show n - 1 - (n - 1 - j) = j by omega]
     exact hp
theorem tIx_lt {n k : Nat} {bk : Bool} (h0 : 0 < n) (i : Nat) : tIx n k bk i < n := by
 have := Nat.mod_lt (i + k) h0
 unfold tIx
 split <;> omega
theorem PO.turn {g : Nat → Int} {n k : Nat} {bk : Bool} (h : PO g n) (h3 : 3 ≤ n) : PO (tG g n k bk) n := ⟨h.1, fun j hj => by
 have := tIx_lt (n := n) (k := k) (bk := bk) (by omega) (j / 2)
 exact h.2 _ (by omega)⟩
theorem vPt_turn {g : Nat → Int} {n k : Nat} (bk : Bool) {x y : Int} (h : PO g n) (h3 : 3 ≤ n) (hx : small x) (hy : small y) : vPt (tG g n k bk) n x y = vPt g n x y := by
 have a := rcp_rg (h.turn (k := k) (bk := bk) h3) h3 hx hy true
 have b := rcp_rg h h3 hx hy true
 rw [rg_turn h3] at a
 exact a.trans b.symm
end Go.Proofs.Tryz.Sx
