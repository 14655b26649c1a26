/- Parts of a proof, in order: what each says stands at its head. No conditions. -/
import Derived.ProofKit
import Derived.Lib.SmallJoins
import Derived.Deep.Slices
import Derived.Test.YtfhkmkhcofodmaaGreatM8
import Derived.Test.YtfhkmkhcofodmaaGreatM3
import Derived.Test.YtfhkmkhcofodmaaGreatM4
namespace Go.Proofs.Tryz.Sx
open Go Go.Sx Go.Proofs Go.Fl Go.Geo
set_option maxRecDepth 100000
noncomputable def Gpcq : Ctx := ⟨⟨tys, []⟩, [(174, conR rcpSC)]⟩
theorem gpcq : CtxOk Tryz.prog Gpcq := ⟨⟨tysOk, FlatsOk.nil⟩, GamOk.cons rcpS GamOk.nil, by kernel_rfl⟩
noncomputable def pcq0C : List SV → RdM
 | [.ptr P 0, .agg [.flt .f64 px, .flt .f64 py]] => .read P fun o0 => (match po0 o0.c with
   | some s => .read s fun o1 => (match serOf o1.c with
   | some (cl, cw, cv, k, x, y, z, w, q, n) => .read q fun o2 => (match fltsFrom .f64 o2.c with
   | some (m2, g) => .ret ⟨[.ptr 0 0, .agg [.flt .f64 px, .flt .f64 py]], [(0, ⟨false, 137, .cells [.ifc 157 (.ptr 1 0), .nils], 0⟩), (1, ⟨false, 150, serC cl cw cv k x y z w 2 n, 0⟩), (2, ⟨false, 100, .flts .f64 m2 g, 0⟩)], .bool (rcp g n (nsg cl n (wz g)) x y z w px py true).1, [], [], some (m2 = 2 * n ∧ ((n ≤ 1000000 ∧ SmF g (2 * n)) ∧ (W1 x ∧ W1 y ∧ W1 z ∧ W1 w)) ∧ W1 px ∧ W1 py)⟩
   | none => .fail)
   | none => .fail)
   | none => .fail)
 | _ => .fail
theorem vc_pcq0 (cl cw cv : Bool) (k : Int) (x y z w : Nat) (_ : Nm) (n : Nat) (_ : Nm) (px py : Nat)  (g : Nat → Nat) : runA Gpcq 3 [(7, .unr [⟨Nat, fun _ => ⟨40, [(5, .tt), (28, .nils), (29, .int .i64 0), (30, .int .i64 0)], [], 4⟩, fun _ => (rcp g n (nsg cl n (wz g)) x y z w px py true).1 = true, fun _ => 0⟩])] [] (codeOf Tryz.f171) (init Tryz.f171.ntmps [.ptr 0 0, .agg [.flt .f64 px, .flt .f64 py]] [(0, ⟨false, 137, .cells [.ifc 157 (.ptr 1 0), .nils], 0⟩), (1, ⟨false, 150, serC cl cw cv k x y z w 2 n, 0⟩), (2, ⟨false, 100, .flts .f64 (2 * n) g, 0⟩)] 3) (endK Gpcq.E.T Tryz.f171.results.toList fun S v => postP 3 ⟨[.ptr 0 0, .agg [.flt .f64 px, .flt .f64 py]], [(0, ⟨false, 137, .cells [.ifc 157 (.ptr 1 0), .nils], 0⟩), (1, ⟨false, 150, serC cl cw cv k x y z w 2 n, 0⟩), (2, ⟨false, 100, .flts .f64 (2 * n) g, 0⟩)], .bool (rcp g n (nsg cl n (wz g)) x y z w px py true).1, [], [], some (2 * n = 2 * n ∧ ((n ≤ 1000000 ∧ SmF g (2 * n)) ∧ (W1 x ∧ W1 y ∧ W1 z ∧ W1 w)) ∧ W1 px ∧ W1 py)⟩ S v) = (
(2 * n = 2 * n ∧ n ≤ 1000000 ∧ SmF g (2 * n) ∧ W1 px ∧ W1 py) ∧ true = true ∧ ((!(rcp g n (nsg cl n
(wz g)) x y z w px py true).1) = true → (rcp g n (nsg cl n (wz g)) x y z w px py true).1 = false ∧ True) ∧ ((!(rcp g n (nsg cl n
(wz g)) x y z w px py true).1) = false → (∃ (_ : Nat), (rcp g n (nsg cl n (wz g)) x y z w px py true).1 = true ∧ (True ∧ True ∧ (0 : Int) = 0 ∧ (0 : Int) = 0
∧ True) ∧ True) ∧ (∀ (_ : Nat), (rcp g n (nsg cl n (wz g)) x y z w px py true).1 = true → (false = true → False) ∧ (false = false → (rcp g n
(nsg cl n (wz g)) x y z w px py true).1 = true ∧ True)) ∧ True)) := by kernel_rfl
theorem pcq0 : ConOk Tryz.prog 171 (conR pcq0C) := by
 refine con_of_vc gpcq Tryz.func171 rfl (by kernel_rfl) fun args => ?_
 unfold pcq0C
 split
 · rename_i P px py
   intro o0
   show RdM.All _ (match po0 o0.c with | some s => _ | none => _) _
   split
   · rename_i s hm0
     intro o1
     show RdM.All _ (match serOf o1.c with | some (cl, cw, cv, k, x, y, z, w, q, n) => _ | none => _) _
     split
     · rename_i cl cw cv k x y z w q n hm1
       intro o2
       show RdM.All _ (match fltsFrom .f64 o2.c with | some (m, g) => _ | none => _) _
       split
       · rename_i m2 g hm2
         intro ho
         replace ho : m2 = 2 * n ∧ ((n ≤ 1000000 ∧ SmF g (2 * n)) ∧ (W1 x ∧ W1 y ∧ W1 z ∧ W1 w)) ∧ W1 px ∧ W1 py := ho
         obtain ⟨hsz2, ho⟩ := ho
         subst hsz2
         refine ⟨?_, _, _, (vc_pcq0 cl cw cv k x y z w q n s px py g).mpr ?_⟩
         · refine okFlag_mk rfl ⟨?_, ⟨trivial, po0_spec hm0 (by simp [sgSig, fsts, nth, sameN_self]), ⟨trivial, serOf_spec hm1 (by simp [sgSig, fsts, nth, sameN_self]), ⟨trivial, (contR_flts hm2).1, trivial⟩⟩⟩⟩
           simp [eqvRL, eqvR, fkEq_self, sgSig, fsts, nth, sameN_self]
         · generalize hv : (rcp g n (nsg cl n (wz g)) x y z w px py true).1 = r
           cases r <;> simp [ho]
       · trivial
     · trivial
   · trivial
 · trivial
noncomputable def Gpiq : Ctx := ⟨⟨tys, []⟩, [(171, conR pcq0C)]⟩
theorem gpiq : CtxOk Tryz.prog Gpiq := ⟨⟨tysOk, FlatsOk.nil⟩, GamOk.cons pcq0 GamOk.nil, by kernel_rfl⟩
noncomputable def piq0C : List SV → RdM
 | [.ptr P 0, .agg [.flt .f64 px, .flt .f64 py]] => .read P fun o0 => (match po0 o0.c with
   | some s => .read s fun o1 => (match serOf o1.c with
   | some (cl, cw, cv, k, x, y, z, w, q, n) => .read q fun o2 => (match fltsFrom .f64 o2.c with
   | some (m2, g) => .ret ⟨[.ptr 0 0, .agg [.flt .f64 px, .flt .f64 py]], [(0, ⟨false, 137, .cells [.ifc 157 (.ptr 1 0), .nils], 0⟩), (1, ⟨false, 150, serC cl cw cv k x y z w 2 n, 0⟩), (2, ⟨false, 100, .flts .f64 m2 g, 0⟩)], .bool (rcp g n (nsg cl n (wz g)) x y z w px py true).1, [], [], some (m2 = 2 * n ∧ ((n ≤ 1000000 ∧ SmF g (2 * n)) ∧ (W1 x ∧ W1 y ∧ W1 z ∧ W1 w)) ∧ W1 px ∧ W1 py)⟩
   | none => .fail)
   | none => .fail)
   | none => .fail)
 | _ => .fail
theorem vc_piq0 (cl cw cv : Bool) (k : Int) (x y z w : Nat) (_ : Nm) (n : Nat) (_ : Nm) (px py : Nat)  (g : Nat → Nat) : runA Gpiq 3 [] [] (codeOf Tryz.f168) (init Tryz.f168.ntmps [.ptr 0 0, .agg [.flt .f64 px, .flt .f64 py]] [(0, ⟨false, 137, .cells [.ifc 157 (.ptr 1 0), .nils], 0⟩), (1, ⟨false, 150, serC cl cw cv k x y z w 2 n, 0⟩), (2, ⟨false, 100, .flts .f64 (2 * n) g, 0⟩)] 3) (endK Gpiq.E.T Tryz.f168.results.toList fun S v => postP 3 ⟨[.ptr 0 0, .agg [.flt .f64 px, .flt .f64 py]], [(0, ⟨false, 137, .cells [.ifc 157 (.ptr 1 0), .nils], 0⟩), (1, ⟨false, 150, serC cl cw cv k x y z w 2 n, 0⟩), (2, ⟨false, 100, .flts .f64 (2 * n) g, 0⟩)], .bool (rcp g n (nsg cl n (wz g)) x y z w px py true).1, [], [], some (2 * n = 2 * n ∧ ((n ≤ 1000000 ∧ SmF g (2 * n)) ∧ (W1 x ∧ W1 y ∧ W1 z ∧ W1 w)) ∧ W1 px ∧ W1 py)⟩ S v) = (
(2 * n = 2 * n ∧ ((n ≤ 1000000 ∧ SmF g (2 * n)) ∧ W1 x ∧ W1 y ∧ W1 z ∧ W1 w) ∧ W1 px ∧ W1
 py) ∧ (rcp g n (nsg cl n (wz g)) x y z w px py true).1 = (rcp g n (nsg cl n (wz g)) x y z w px py true).1 ∧ True) := by kernel_rfl
theorem piq0 : ConOk Tryz.prog 168 (conR piq0C) := by
 refine con_of_vc gpiq Tryz.func168 rfl (by kernel_rfl) fun args => ?_
 unfold piq0C
 split
 · rename_i P px py
   intro o0
   show RdM.All _ (match po0 o0.c with | some s => _ | none => _) _
   split
   · rename_i s hm0
     intro o1
     show RdM.All _ (match serOf o1.c with | some (cl, cw, cv, k, x, y, z, w, q, n) => _ | none => _) _
     split
     · rename_i cl cw cv k x y z w q n hm1
       intro o2
       show RdM.All _ (match fltsFrom .f64 o2.c with | some (m, g) => _ | none => _) _
       split
       · rename_i m2 g hm2
         intro ho
         replace ho : m2 = 2 * n ∧ ((n ≤ 1000000 ∧ SmF g (2 * n)) ∧ (W1 x ∧ W1 y ∧ W1 z ∧ W1 w)) ∧ W1 px ∧ W1 py := ho
         obtain ⟨hsz2, ho⟩ := ho
         subst hsz2
         refine ⟨?_, _, _, (vc_piq0 cl cw cv k x y z w q n s px py g).mpr ?_⟩
         · refine okFlag_mk rfl ⟨?_, ⟨trivial, po0_spec hm0 (by simp [sgSig, fsts, nth, sameN_self]), ⟨trivial, serOf_spec hm1 (by simp [sgSig, fsts, nth, sameN_self]), ⟨trivial, (contR_flts hm2).1, trivial⟩⟩⟩⟩
           simp [eqvRL, eqvR, fkEq_self, sgSig, fsts, nth, sameN_self]
         · generalize hv : (rcp g n (nsg cl n (wz g)) x y z w px py true).1 = r
           cases r <;> simp [ho]
       · trivial
     · trivial
   · trivial
 · trivial
section
variable (g : Nat → Int) (n : Nat) (cl : Bool)
def rX0 : Nat := pick (ppBig n cl) (rlo (fI g) 0 n)
def rX1 : Nat := pick (ppBig n cl) (rlo (fI g) 1 n)
def rX2 : Nat := pick (ppBig n cl) (rhi (fI g) 0 n)
def rX3 : Nat := pick (ppBig n cl) (rhi (fI g) 1 n)
def pCw : Bool := ppBig n cl && fGt .f64 (cwF (fI g) n n) 0
def pCv : Bool := ppBig n cl && !(dcF (fI g) n n).2
noncomputable def nsI : Nat := nsg cl n (wz (fI g))
end
section
variable (g : Nat → Int) (n : Nat)
def PO : Prop := n ≤ 64 ∧ ∀ j, j < 2 * n → small (g j)
noncomputable def vC (h : Nat → Int) (m : Nat) (cl2 al : Bool) : Bool := rcrS (fI g) n (nsI g n true) true (pCw g n true) (pCv g n true) (rX0 g n true) (rX1 g n true) (rX2 g n true) (rX3 g n true) (fI h) m (nsI h m cl2) cl2 (rX0 h m cl2) (rX1 h m cl2) (rX2 h m cl2) (rX3 h m cl2) al
noncomputable def vIL (h : Nat → Int) (m : Nat) (al : Bool) : Bool := rilS (fI g) n (nsI g n true) true (rX0 g n true) (rX1 g n true) (rX2 g n true) (rX3 g n true) (fI h) m (nsI h m false) false (rX0 h m false) (rX1 h m false) (rX2 h m false) (rX3 h m false) al
noncomputable def vIP (h : Nat → Int) (m : Nat) (al : Bool) : Bool := rirB (emp true m) (emp true n) (mt4 (rX0 h m true) (rX1 h m true) (rX2 h m true) (rX3 h m true) (rX0 g n true) (rX1 g n true) (rX2 g n true) (rX3 g n true))
 (fGt .f64 (arF (rX0 g n true) (rX1 g n true) (rX2 g n true) (rX3 g n true)) (arF (rX0 h m true) (rX1 h m true) (rX2 h m true) (rX3 h m true)))
 (anyB (sIs (fI g) n (nsI g n true) (rX0 g n true) (rX1 g n true) (rX2 g n true) (rX3 g n true) (fI h) m al) (nsI h m true)) (anyB (sIs (fI h) m (nsI h m true) (rX0 h m true) (rX1 h m true) (rX2 h m true) (rX3 h m true) (fI g) n al) (nsI g n true))
noncomputable def vCR (a b c d : Int) : Bool := rcrR (fI g) n (nsI g n true) true (pCw g n true) (pCv g n true) (rX0 g n true) (rX1 g n true) (rX2 g n true) (rX3 g n true) (ofI .f64 a) (ofI .f64 b) (ofI .f64 c) (ofI .f64 d) true
noncomputable def vIR (a b c d : Int) : Bool := rirB false (emp true n) (mt4 (ofI .f64 a) (ofI .f64 b) (ofI .f64 c) (ofI .f64 d) (rX0 g n true) (rX1 g n true) (rX2 g n true) (rX3 g n true))
 (fGt .f64 (arF (rX0 g n true) (rX1 g n true) (rX2 g n true) (rX3 g n true)) (arF (ofI .f64 a) (ofI .f64 b) (ofI .f64 c) (ofI .f64 d)))
 (anyB (sIs (fI g) n (nsI g n true) (rX0 g n true) (rX1 g n true) (rX2 g n true) (rX3 g n true) (rcG (ofI .f64 a) (ofI .f64 b) (ofI .f64 c) (ofI .f64 d)) 4 true) 4)
 (anyB (sIs (rcG (ofI .f64 a) (ofI .f64 b) (ofI .f64 c) (ofI .f64 d)) 4 4 (ofI .f64 a) (ofI .f64 b) (ofI .f64 c) (ofI .f64 d) (fI g) n true) (nsI g n true))
noncomputable def vPt (x y : Int) : Bool := (rcp (fI g) n (nsI g n true) (rX0 g n true) (rX1 g n true) (rX2 g n true) (rX3 g n true) (ofI .f64 x) (ofI .f64 y) true).1
end
section
variable {g : Nat → Int} {n : Nat} (h : PO g n)
include h
theorem PO.len : n ≤ 1000000 := by have := h.1; omega
theorem PO.smF : SmF (fI g) (2 * n) := fun j hj => (w1_fI (h.2 j hj)).1
theorem PO.ppOk {cl : Bool} (hb : ppBig n cl = true) : ppOk (fI g) n := by
 have h2 : 2 ≤ n := (of_decide_eq_true hb).1
 exact ppOk_F h.1 (whl_fI h.2) h2
omit h in
theorem w1_of {x : Nat} {z : Int} (hx : FI x z) (hz : small z) : W1 x ∧ wh x = z := by
 have e := wh_FI hx
 exact ⟨⟨by rw [e]; exact hx, by rw [e]; exact hz⟩, e⟩
theorem PO.lo {k : Nat} (hk : k < 2) (h0 : 0 < n) : W1 (rlo (fI g) k n) ∧ wh (rlo (fI g) k n) = loZ g k n := by
 refine w1_of (lo_F (whl_fI h.2) hk n (Nat.le_refl _)).1 ?_
 obtain ⟨j, hj, e⟩ := loZ_at (z := g) (k := k) h0
 rw [e]
 exact h.2 _ (by omega)
theorem PO.hi {k : Nat} (hk : k < 2) (h0 : 0 < n) : W1 (rhi (fI g) k n) ∧ wh (rhi (fI g) k n) = hiZ g k n := by
 refine w1_of (hi_F (whl_fI h.2) hk n (Nat.le_refl _)).1 ?_
 obtain ⟨j, hj, e⟩ := hiZ_at (z := g) (k := k) h0
 rw [e]
 exact h.2 _ (by omega)
theorem PO.w4 {cl : Bool} : W1 (rX0 g n cl) ∧ W1 (rX1 g n cl) ∧ W1 (rX2 g n cl) ∧ W1 (rX3 g n cl) := by
 unfold rX0 rX1 rX2 rX3 pick
 split
 · rename_i hb
   have h2 : 2 ≤ n := (of_decide_eq_true hb).1
   exact ⟨(h.lo (by decide) (by omega)).1, (h.lo (by decide) (by omega)).1, (h.hi (by decide) (by omega)).1, (h.hi (by decide) (by omega)).1⟩
 · exact ⟨w1_zero.1, w1_zero.1, w1_zero.1, w1_zero.1⟩
theorem PO.ob {cl : Bool} : (n ≤ 1000000 ∧ SmF (fI g) (2 * n)) ∧ (W1 (rX0 g n cl) ∧ W1 (rX1 g n cl) ∧ W1 (rX2 g n cl) ∧ W1 (rX3 g n cl)) := ⟨⟨h.len, h.smF⟩, h.w4⟩
end
def noHole : List SV → Bool
 | [.agg [_, _, .nils], _] => true
 | _ => false
noncomputable def G39L0 : Ctx := ⟨⟨tys, []⟩, [(64, conR optsC), (63, conR shaped30C), (74, conR ptsC), (73, conR newLineC), (237, conR pcl0C), (233, conR pil0C)]⟩
theorem g39L0 : CtxOk Tryz.prog G39L0 := ⟨⟨tysOk, FlatsOk.nil⟩, GamOk.cons opts (GamOk.cons shaped30 (GamOk.cons pts (GamOk.cons newLine (GamOk.cons pcl0 (GamOk.cons pil0 GamOk.nil))))), by kernel_rfl⟩
noncomputable def G39P0 : Ctx := ⟨⟨tys, []⟩, [(64, conR optsC), (63, conR shaped30C), (238, conR pcp0C), (208, conR pip0C)]⟩
theorem g39P0 : CtxOk Tryz.prog G39P0 := ⟨⟨tysOk, FlatsOk.nil⟩, GamOk.cons opts (GamOk.cons shaped30 (GamOk.cons pcp0 (GamOk.cons pip0 GamOk.nil))), by kernel_rfl⟩
noncomputable def G39R0 : Ctx := ⟨⟨tys, []⟩, [(64, conR optsC), (63, conR shaped30C), (72, conR cornerC), (68, pureCon mkRectF), (239, conR pcr0C), (202, conR pir0C)]⟩
theorem g39R0 : CtxOk Tryz.prog G39R0 := ⟨⟨tysOk, FlatsOk.nil⟩, GamOk.cons opts (GamOk.cons shaped30 (GamOk.cons corner (GamOk.cons (.pure mkRect) (GamOk.cons pcr0 (GamOk.cons pir0 GamOk.nil))))), by kernel_rfl⟩
noncomputable def G39T0 : Ctx := ⟨⟨tys, []⟩, [(64, conR optsC), (63, conR shaped30C), (72, conR cornerC), (75, pureCon ptF), (171, conR pcq0C), (168, conR piq0C)]⟩
theorem g39T0 : CtxOk Tryz.prog G39T0 := ⟨⟨tysOk, FlatsOk.nil⟩, GamOk.cons opts (GamOk.cons shaped30 (GamOk.cons corner (GamOk.cons (.pure pt) (GamOk.cons pcq0 (GamOk.cons piq0 GamOk.nil))))), by kernel_rfl⟩
noncomputable def asLn0C : List SV → RdM
 | [.agg [.int .i64 3, .slcc n len, .nils], .agg [.int .i64 2, .slcc m ll, .nils], .int .i64 0, .int .i64 0] => .read n fun o0 => (match intsFrom .i64 o0.c with
   | some (m0, g) => .read m fun o1 => (match intsFrom .i64 o1.c with
   | some (m1, gl) => .ret ⟨[.agg [.int .i64 3, .slcc 0 len, .nils], .agg [.int .i64 2, .slcc 1 ll, .nils], .int .i64 0, .int .i64 0], [(0, ⟨false, 23, .ints .i64 m0 g, 0⟩), (1, ⟨false, 23, .ints .i64 m1 gl, 0⟩)], .tup [.bool (vC g len gl ll false true), .bool (vIL g len gl ll true)], [], [], some (m0 = 2 * len ∧ m1 = 2 * ll ∧ PO g len ∧ PO gl ll)⟩
   | none => .fail)
   | none => .fail)
 | _ => .fail
theorem vc_asLn0 (len ll : Nat)  (g : Nat → Int) (gl : Nat → Int) : runA G39L0 2 [] [] (codeOf Tryz.f39) (init Tryz.f39.ntmps [.agg [.int .i64 3, .slcc 0 len, .nils], .agg [.int .i64 2, .slcc 1 ll, .nils], .int .i64 0, .int .i64 0] [(0, ⟨false, 23, .ints .i64 (2 * len) g, 0⟩), (1, ⟨false, 23, .ints .i64 (2 * ll) gl, 0⟩)] 2) (endK G39L0.E.T Tryz.f39.results.toList fun S v => postP 2 ⟨[.agg [.int .i64 3, .slcc 0 len, .nils], .agg [.int .i64 2, .slcc 1 ll, .nils], .int .i64 0, .int .i64 0], [(0, ⟨false, 23, .ints .i64 (2 * len) g, 0⟩), (1, ⟨false, 23, .ints .i64 (2 * ll) gl, 0⟩)], .tup [.bool (vC g len gl ll false true), .bool (vIL g len gl ll true)], [], [], some (2 * len = 2 * len ∧ 2 * ll = 2 * ll ∧ PO g len ∧ PO gl ll)⟩ S v) = (
 True ∧ (2 * len = 2 * len ∧ (0 : Int) = 0 ∧ len ≤ 1000000 ∧ (ppBig len true = true → ppOk (fI g) len)) ∧ (false = true → False) ∧ (false = false → (true = true →
(2 * ll = 2 * ll ∧ ll ≤ 1000000) ∧ (2 * ll = 2 * ll ∧ (0 : Int) = 0 ∧ ll ≤ 1000000 ∧ (ppBig ll false = true → ppOk (fI gl) ll)) ∧ (2
* len = 2 * len ∧ 2 * ll = 2 * ll ∧ ((len ≤ 1000000 ∧ SmF (fI g) (2 * len)) ∧ W1 (pick (ppBig len true)
(rlo (fI g) 0 len)) ∧ W1 (pick (ppBig len true) (rlo (fI g) 1 len)) ∧ W1
(pick (ppBig len true) (rhi (fI g) 0 len)) ∧ W1 (pick (ppBig len true) (rhi (fI
 g) 1 len))) ∧ (ll ≤ 1000000 ∧ SmF (fI gl) (2 * ll)) ∧ W1 (pick (ppBig ll false) (rlo (fI gl) 0 ll)) ∧ W1 (pick (ppBig ll false) (rlo (fI gl) 1 ll)) ∧ W1 (pick (ppBig ll false)
(rhi (fI gl) 0 ll)) ∧ W1 (pick (ppBig ll false) (rhi (fI gl) 1 ll))) ∧ (2 * len = 2 * len ∧
2 * ll = 2 * ll ∧ ((len ≤ 1000000 ∧ SmF (fI g) (2 * len)) ∧ W1 (pick (ppBig len true) (rlo
(fI g) 0 len)) ∧ W1 (pick (ppBig len true) (rlo (fI g) 1 len)) ∧ W1 (pick
(ppBig len true) (rhi (fI g) 0 len)) ∧ W1 (pick (ppBig len true) (rhi (fI g) 1 len))) ∧
(ll ≤ 1000000 ∧ SmF (fI gl) (2 * ll)) ∧ W1 (pick (ppBig ll false) (rlo (fI gl) 0 ll)) ∧
 W1 (pick (ppBig ll false) (rlo (fI gl) 1 ll)) ∧ W1 (pick (ppBig ll false) (rhi
(fI gl) 0 ll)) ∧ W1 (pick (ppBig ll false) (rhi (fI gl) 1 ll))) ∧ (rcrS (fI g) len
(nsg true len (wz (fI g))) true (ppBig len true && fGt .f64 (cwF (fI g) len len) 0) (ppBig len true &&
!(dcF (fI g) len len).2) (pick (ppBig len true) (rlo (fI g) 0 len)) (pick (ppBig len true)
(rlo (fI g) 1 len)) (pick (ppBig len true) (rhi (fI g) 0 len)) (pick (ppBig len true)
(rhi (fI g) 1 len)) (fI gl) ll (nsg false ll (wz (fI gl))) false (pick (ppBig ll false)
(rlo (fI gl) 0 ll)) (pick (ppBig ll false) (rlo (fI gl) 1 ll)) (pick (ppBig ll false)
(rhi (fI gl) 0 ll)) (pick (ppBig ll false) (rhi (fI gl) 1 ll)) true = vC g len gl ll false true ∧
 rilS (fI g) len (nsg true len (wz (fI g))) true (pick (ppBig len true) (rlo (fI g) 0 len)) (pick (ppBig len true) (rlo (fI g) 1 len)) (pick (ppBig len true) (rhi (fI g) 0
 len)) (pick (ppBig len true) (rhi (fI g) 1 len)) (fI gl) ll (nsg false ll (wz (fI gl))) false
(pick (ppBig ll false) (rlo (fI gl) 0 ll)) (pick (ppBig ll false) (rlo (fI gl) 1 ll))
(pick (ppBig ll false) (rhi (fI gl) 0 ll)) (pick (ppBig ll false) (rhi (fI gl) 1 ll)) true
= vIL g len gl ll true ∧ True) ∧ True) ∧ (true = false → (false = true → False) ∧ (false = false → False)))) := by kernel_rfl
theorem asLn0 : ConOk Tryz.prog 39 (conR asLn0C) := by
 refine con_of_vc g39L0 Tryz.func39 rfl (by kernel_rfl) fun args => ?_
 unfold asLn0C
 split
 · rename_i n len m ll
   intro o0
   show RdM.All _ (match intsFrom .i64 o0.c with | some (m, g) => _ | none => _) _
   split
   · rename_i m0 g hm0
     intro o1
     show RdM.All _ (match intsFrom .i64 o1.c with | some (m, g) => _ | none => _) _
     split
     · rename_i m1 gl hm1
       intro ho
       replace ho : m0 = 2 * len ∧ m1 = 2 * ll ∧ PO g len ∧ PO gl ll := ho
       obtain ⟨hsz0, hsz1, ho⟩ := ho
       subst hsz0
       subst hsz1
       refine ⟨?_, _, _, (vc_asLn0 len ll g gl).mpr ?_⟩
       · refine okFlag_mk rfl ⟨?_, ⟨trivial, (contR_ints hm0).1, ⟨trivial, (contR_ints hm1).1, trivial⟩⟩⟩
         simp [eqvRL, eqvR, kEq_self, sgSig, fsts, nth, sameN_self]
       · obtain ⟨h1, h2⟩ := ho
         simp only [true_and, and_true, eq_self, true_implies]
         simp only [Bool.false_eq_true, Bool.true_eq_false, false_implies, true_and, and_true]
         exact ⟨⟨h1.len, fun hb => h1.ppOk hb⟩, h2.len, ⟨h2.len, fun hb => h2.ppOk hb⟩, ⟨h1.ob, h2.ob⟩, ⟨h1.ob, h2.ob⟩, rfl, rfl⟩
     · trivial
   · trivial
 · trivial
noncomputable def asPo0C : List SV → RdM
 | [.agg [.int .i64 3, .slcc n len, .nils], .agg [.int .i64 3, .slcc m ll, .nils], .int .i64 0, .int .i64 0] => .read n fun o0 => (match intsFrom .i64 o0.c with
   | some (m0, g) => .read m fun o1 => (match intsFrom .i64 o1.c with
   | some (m1, gl) => .ret ⟨[.agg [.int .i64 3, .slcc 0 len, .nils], .agg [.int .i64 3, .slcc 1 ll, .nils], .int .i64 0, .int .i64 0], [(0, ⟨false, 23, .ints .i64 m0 g, 0⟩), (1, ⟨false, 23, .ints .i64 m1 gl, 0⟩)], .tup [.bool (vC g len gl ll true true), .bool (vIP g len gl ll true)], [], [], some (m0 = 2 * len ∧ m1 = 2 * ll ∧ PO g len ∧ PO gl ll)⟩
   | none => .fail)
   | none => .fail)
 | _ => .fail
theorem vc_asPo0 (len ll : Nat)  (g : Nat → Int) (gl : Nat → Int) : runA G39P0 2 [] [] (codeOf Tryz.f39) (init Tryz.f39.ntmps [.agg [.int .i64 3, .slcc 0 len, .nils], .agg [.int .i64 3, .slcc 1 ll, .nils], .int .i64 0, .int .i64 0] [(0, ⟨false, 23, .ints .i64 (2 * len) g, 0⟩), (1, ⟨false, 23, .ints .i64 (2 * ll) gl, 0⟩)] 2) (endK G39P0.E.T Tryz.f39.results.toList fun S v => postP 2 ⟨[.agg [.int .i64 3, .slcc 0 len, .nils], .agg [.int .i64 3, .slcc 1 ll, .nils], .int .i64 0, .int .i64 0], [(0, ⟨false, 23, .ints .i64 (2 * len) g, 0⟩), (1, ⟨false, 23, .ints .i64 (2 * ll) gl, 0⟩)], .tup [.bool (vC g len gl ll true true), .bool (vIP g len gl ll true)], [], [], some (2 * len = 2 * len ∧ 2 * ll = 2 * ll ∧ PO g len ∧ PO gl ll)⟩ S v) = (
 True ∧ (2 * len = 2 * len ∧ (0 : Int) = 0 ∧ len ≤ 1000000 ∧ (ppBig len true = true → ppOk (fI g) len)) ∧ (false = true → False) ∧ (false = false → (false = true →
 False) ∧ (false = false → (true = true → (2 * ll = 2 * ll ∧ (0 : Int) = 0 ∧ ll ≤ 1000000 ∧ (ppBig ll true = true → ppOk (fI gl) ll)) ∧ (2 * len = 2
* len ∧ 2 * ll = 2 * ll ∧ ((len ≤ 1000000 ∧ SmF (fI g) (2 * len)) ∧ W1 (pick (ppBig len true) (rlo
(fI g) 0 len)) ∧ W1 (pick (ppBig len true) (rlo (fI g) 1 len)) ∧ W1 (pick
(ppBig len true) (rhi (fI g) 0 len)) ∧ W1 (pick (ppBig len true) (rhi (fI g) 1 len))) ∧
(ll ≤ 1000000 ∧ SmF (fI gl) (2 * ll)) ∧ W1 (pick (ppBig ll true) (rlo (fI gl) 0 ll)) ∧
 W1 (pick (ppBig ll true) (rlo (fI gl) 1 ll)) ∧ W1 (pick (ppBig ll true) (rhi
(fI gl) 0 ll)) ∧ W1 (pick (ppBig ll true) (rhi (fI gl) 1 ll))) ∧ (2 * len = 2 * len ∧ 2 * ll = 2 * ll ∧ ((len ≤ 1000000 ∧ SmF (fI g) (2 * len)) ∧ W1 (pick (ppBig len true) (rlo (fI g) 0 len))
∧ W1 (pick (ppBig len true) (rlo (fI g) 1 len)) ∧ W1 (pick (ppBig len true) (rhi
(fI g) 0 len)) ∧ W1 (pick (ppBig len true) (rhi (fI g) 1 len))) ∧ (ll ≤ 1000000 ∧ SmF
(fI gl) (2 * ll)) ∧ W1 (pick (ppBig ll true) (rlo (fI gl) 0 ll)) ∧ W1 (pick
(ppBig ll true) (rlo (fI gl) 1 ll)) ∧ W1 (pick (ppBig ll true) (rhi (fI gl) 0 ll)) ∧
 W1 (pick (ppBig ll true) (rhi (fI gl) 1 ll))) ∧ (rcrS (fI g) len (nsg true len
(wz (fI g))) true (ppBig len true && fGt .f64 (cwF (fI g) len len) 0) (ppBig len true && !(dcF
(fI g) len len).2) (pick (ppBig len true) (rlo (fI g) 0 len)) (pick (ppBig len true) (rlo
(fI g) 1 len)) (pick (ppBig len true) (rhi (fI g) 0 len)) (pick (ppBig len true) (rhi
(fI g) 1 len)) (fI gl) ll (nsg true ll (wz (fI gl))) true (pick (ppBig ll true) (rlo
(fI gl) 0 ll)) (pick (ppBig ll true) (rlo (fI gl) 1 ll)) (pick (ppBig ll true) (rhi
(fI gl) 0 ll)) (pick (ppBig ll true) (rhi (fI gl) 1 ll)) true = vC g len gl ll true true ∧ rirB
(emp true ll) (emp true len) (mt4 (pick (ppBig ll true) (rlo (fI gl) 0 ll)) (pick
(ppBig ll true) (rlo (fI gl) 1 ll)) (pick (ppBig ll true) (rhi (fI gl) 0 ll)) (pick
(ppBig ll true) (rhi (fI gl) 1 ll)) (pick (ppBig len true) (rlo (fI g) 0 len)) (pick
(ppBig len true) (rlo (fI g) 1 len)) (pick (ppBig len true) (rhi (fI g) 0 len)) (pick
(ppBig len true) (rhi (fI g) 1 len))) (fGt .f64 (arF (pick (ppBig len true) (rlo (fI g) 0 len)) (pick (ppBig len true) (rlo (fI g) 1 len)) (pick (ppBig len true) (rhi (fI g) 0
 len)) (pick (ppBig len true) (rhi (fI g) 1 len))) (arF (pick (ppBig ll true) (rlo
(fI gl) 0 ll)) (pick (ppBig ll true) (rlo (fI gl) 1 ll)) (pick (ppBig ll true) (rhi
(fI gl) 0 ll)) (pick (ppBig ll true) (rhi (fI gl) 1 ll)))) (anyB (sIs (fI g) len
(nsg true len (wz (fI g))) (pick (ppBig len true) (rlo (fI g) 0 len)) (pick
(ppBig len true) (rlo (fI g) 1 len)) (pick (ppBig len true) (rhi (fI g) 0 len)) (pick
(ppBig len true) (rhi (fI g) 1 len)) (fI gl) ll true) (nsg true ll (wz (fI gl)))) (anyB
(sIs (fI gl) ll (nsg true ll (wz (fI gl))) (pick (ppBig ll true) (rlo (fI gl) 0
 ll)) (pick (ppBig ll true) (rlo (fI gl) 1 ll)) (pick (ppBig ll true) (rhi (fI gl) 0 ll))
(pick (ppBig ll true) (rhi (fI gl) 1 ll)) (fI g) len true) (nsg true len (wz (fI g)))) =
 vIP g len gl ll true ∧ True) ∧ True) ∧ (true = false → False)))) := by kernel_rfl
theorem asPo0 : ConOk Tryz.prog 39 (conR asPo0C) := by
 refine con_of_vc g39P0 Tryz.func39 rfl (by kernel_rfl) fun args => ?_
 unfold asPo0C
 split
 · rename_i n len m ll
   intro o0
   show RdM.All _ (match intsFrom .i64 o0.c with | some (m, g) => _ | none => _) _
   split
   · rename_i m0 g hm0
     intro o1
     show RdM.All _ (match intsFrom .i64 o1.c with | some (m, g) => _ | none => _) _
     split
     · rename_i m1 gl hm1
       intro ho
       replace ho : m0 = 2 * len ∧ m1 = 2 * ll ∧ PO g len ∧ PO gl ll := ho
       obtain ⟨hsz0, hsz1, ho⟩ := ho
       subst hsz0
       subst hsz1
       refine ⟨?_, _, _, (vc_asPo0 len ll g gl).mpr ?_⟩
       · refine okFlag_mk rfl ⟨?_, ⟨trivial, (contR_ints hm0).1, ⟨trivial, (contR_ints hm1).1, trivial⟩⟩⟩
         simp [eqvRL, eqvR, kEq_self, sgSig, fsts, nth, sameN_self]
       · obtain ⟨h1, h2⟩ := ho
         simp only [true_and, and_true, eq_self, true_implies]
         simp only [Bool.false_eq_true, Bool.true_eq_false, false_implies, true_and, and_true]
         exact ⟨⟨h1.len, fun hb => h1.ppOk hb⟩, ⟨h2.len, fun hb => h2.ppOk hb⟩, ⟨h1.ob, h2.ob⟩, ⟨h1.ob, h2.ob⟩, rfl, rfl⟩
     · trivial
   · trivial
 · trivial
noncomputable def asRc0C : List SV → RdM
 | [.agg [.int .i64 3, .slcc n len, .nils], .agg [.int .i64 1, .slcc m 2, .nils], .int .i64 0, .int .i64 0] => .read n fun o0 => (match intsFrom .i64 o0.c with
   | some (m0, g) => .read m fun o1 => (match intsFrom .i64 o1.c with
   | some (m1, gl) => .ret ⟨[.agg [.int .i64 3, .slcc 0 len, .nils], .agg [.int .i64 1, .slcc 1 2, .nils], .int .i64 0, .int .i64 0], [(0, ⟨false, 23, .ints .i64 m0 g, 0⟩), (1, ⟨false, 23, .ints .i64 m1 gl, 0⟩)], .tup [.bool (vCR g len (gl 0) (gl 1) (gl 2) (gl 3)), .bool (vIR g len (gl 0) (gl 1) (gl 2) (gl 3))], [], [], some (m0 = 2 * len ∧ m1 = 4 ∧ PO g len ∧ (∀ j, j < 4 → small (gl j)))⟩
   | none => .fail)
   | none => .fail)
 | _ => .fail
theorem vc_asRc0 (len : Nat)  (g : Nat → Int) (gl : Nat → Int) : runA G39R0 2 [] [] (codeOf Tryz.f39) (init Tryz.f39.ntmps [.agg [.int .i64 3, .slcc 0 len, .nils], .agg [.int .i64 1, .slcc 1 2, .nils], .int .i64 0, .int .i64 0] [(0, ⟨false, 23, .ints .i64 (2 * len) g, 0⟩), (1, ⟨false, 23, .ints .i64 (4) gl, 0⟩)] 2) (endK G39R0.E.T Tryz.f39.results.toList fun S v => postP 2 ⟨[.agg [.int .i64 3, .slcc 0 len, .nils], .agg [.int .i64 1, .slcc 1 2, .nils], .int .i64 0, .int .i64 0], [(0, ⟨false, 23, .ints .i64 (2 * len) g, 0⟩), (1, ⟨false, 23, .ints .i64 (4) gl, 0⟩)], .tup [.bool (vCR g len (gl 0) (gl 1) (gl 2) (gl 3)), .bool (vIR g len (gl 0) (gl 1) (gl 2) (gl 3))], [], [], some (2 * len = 2 * len ∧ 4 = 4 ∧ PO g len ∧ (∀ j, j < 4 → small (gl j)))⟩ S v) = (
 True ∧ (2 * len = 2 * len ∧ (0 : Int) = 0 ∧ len ≤ 1000000 ∧ (ppBig len true = true → ppOk (fI g) len)) ∧ (true = true → (4 = 4 ∧ (0 : Int) ≤ (0 :
 Int)) ∧ (4 = 4 ∧ (0 : Int) ≤ 1) ∧ true = true ∧ (2 * len = 2 * len ∧ ((len ≤ 1000000 ∧ SmF (fI g) (2 * len)) ∧ W1 (pick
(ppBig len true) (rlo (fI g) 0 len)) ∧ W1 (pick (ppBig len true) (rlo (fI g) 1 len)) ∧
 W1 (pick (ppBig len true) (rhi (fI g) 0 len)) ∧ W1 (pick (ppBig len true) (rhi
(fI g) 1 len))) ∧ W1 (ofI .f64 (crn gl 2 (0 : Int) 0)) ∧ W1 (ofI .f64 (crn gl 2 (0 : Int) 1)) ∧
 W1 (ofI .f64 (crn gl 2 (1 : Int) 0)) ∧ W1 (ofI .f64 (crn gl 2 (1 : Int) 1))) ∧ (2 * len = 2 * len ∧ ((len ≤ 1000000 ∧ SmF (fI g) (2 * len)) ∧ W1 (pick (ppBig len true) (rlo (fI g) 0 len)) ∧ W1
(pick (ppBig len true) (rlo (fI g) 1 len)) ∧ W1 (pick (ppBig len true) (rhi (fI
 g) 0 len)) ∧ W1 (pick (ppBig len true) (rhi (fI g) 1 len))) ∧ W1 (ofI .f64 (crn gl 2 (0 : Int)
0)) ∧ W1 (ofI .f64 (crn gl 2 (0 : Int) 1)) ∧ W1 (ofI .f64 (crn gl 2 (1 : Int) 0)) ∧ W1 (ofI .f64
(crn gl 2 (1 : Int) 1))) ∧ true = true ∧ (rcrR (fI g) len (nsg true len (wz (fI g))) true (ppBig len true &&
 fGt .f64 (cwF (fI g) len len) 0) (ppBig len true && !(dcF (fI g) len len).2) (pick (ppBig len true)
(rlo (fI g) 0 len)) (pick (ppBig len true) (rlo (fI g) 1 len)) (pick (ppBig len true)
(rhi (fI g) 0 len)) (pick (ppBig len true) (rhi (fI g) 1 len)) (ofI .f64 (crn gl 2 (0 : Int)
0)) (ofI .f64 (crn gl 2 (0 : Int) 1)) (ofI .f64 (crn gl 2 (1 : Int) 0)) (ofI .f64 (crn gl 2 (1 : Int) 1)) true =
 vCR g len (gl 0) (gl 1) (gl 2) (gl 3) ∧ rirB false (emp true len) (mt4 (ofI .f64 (crn gl 2 (0 : Int) 0))
(ofI .f64 (crn gl 2 (0 : Int) 1)) (ofI .f64 (crn gl 2 (1 : Int) 0)) (ofI .f64 (crn gl 2 (1 : Int) 1)) (pick
(ppBig len true) (rlo (fI g) 0 len)) (pick (ppBig len true) (rlo (fI g) 1 len)) (pick
(ppBig len true) (rhi (fI g) 0 len)) (pick (ppBig len true) (rhi (fI g) 1 len))) (fGt .f64
(arF (pick (ppBig len true) (rlo (fI g) 0 len)) (pick (ppBig len true) (rlo (fI
 g) 1 len)) (pick (ppBig len true) (rhi (fI g) 0 len)) (pick (ppBig len true) (rhi (fI g)
1 len))) (arF (ofI .f64 (crn gl 2 (0 : Int) 0)) (ofI .f64 (crn gl 2 (0 : Int) 1)) (ofI .f64 (crn gl 2 (1 : Int)
0)) (ofI .f64 (crn gl 2 (1 : Int) 1)))) (anyB (sIs (fI g) len (nsg true len (wz (fI g)))
(pick (ppBig len true) (rlo (fI g) 0 len)) (pick (ppBig len true) (rlo (fI g) 1 len))
(pick (ppBig len true) (rhi (fI g) 0 len)) (pick (ppBig len true) (rhi (fI g) 1 len))
(rcG (ofI .f64 (crn gl 2 (0 : Int) 0)) (ofI .f64 (crn gl 2 (0 : Int) 1)) (ofI .f64 (crn gl 2 (1 : Int) 0))
(ofI .f64 (crn gl 2 (1 : Int) 1))) 4 true) 4) (anyB (sIs (rcG (ofI .f64 (crn gl 2 (0 : Int) 0))
(ofI .f64 (crn gl 2 (0 : Int) 1)) (ofI .f64 (crn gl 2 (1 : Int) 0)) (ofI .f64 (crn gl 2 (1 : Int) 1))) 4 4
(ofI .f64 (crn gl 2 (0 : Int) 0)) (ofI .f64 (crn gl 2 (0 : Int) 1)) (ofI .f64 (crn gl 2 (1 : Int) 0)) (ofI .f64
(crn gl 2 (1 : Int) 1)) (fI g) len true) (nsg true len (wz (fI g)))) = vIR g len (gl 0) (gl 1) (gl 2)
(gl 3) ∧ True) ∧ True) ∧ (true = false → (false = true → False) ∧ (false = false → (false = true → False) ∧ (false = false → (4 = 4 ∧ (0 : Int) ≤ 0) ∧ False)))) := by kernel_rfl
theorem asRc0 : ConOk Tryz.prog 39 (conR asRc0C) := by
 refine con_of_vc g39R0 Tryz.func39 rfl (by kernel_rfl) fun args => ?_
 unfold asRc0C
 split
 · rename_i n len m
   intro o0
   show RdM.All _ (match intsFrom .i64 o0.c with | some (m, g) => _ | none => _) _
   split
   · rename_i m0 g hm0
     intro o1
     show RdM.All _ (match intsFrom .i64 o1.c with | some (m, g) => _ | none => _) _
     split
     · rename_i m1 gl hm1
       intro ho
       replace ho : m0 = 2 * len ∧ m1 = 4 ∧ PO g len ∧ (∀ j, j < 4 → small (gl j)) := ho
       obtain ⟨hsz0, hsz1, ho⟩ := ho
       subst hsz0
       subst hsz1
       refine ⟨?_, _, _, (vc_asRc0 len g gl).mpr ?_⟩
       · refine okFlag_mk rfl ⟨?_, ⟨trivial, (contR_ints hm0).1, ⟨trivial, (contR_ints hm1).1, trivial⟩⟩⟩
         simp [eqvRL, eqvR, kEq_self, sgSig, fsts, nth, sameN_self]
       · obtain ⟨h1, h2⟩ := ho
         simp only [true_and, and_true, eq_self, true_implies]
         have c0 : crn gl 2 0 0 = gl 0 := rfl
         have c1 : crn gl 2 0 1 = gl 1 := rfl
         have c2 : crn gl 2 1 0 = gl 2 := rfl
         have c3 : crn gl 2 1 1 = gl 3 := rfl
         have w := fun j (hj : j < 4) => (w1_fI (h2 j hj)).1
         simp only [c0, c1, c2, c3, Bool.false_eq_true, Bool.true_eq_false, false_implies, true_and, and_true]
         exact ⟨⟨h1.len, fun hb => h1.ppOk hb⟩, by decide, by decide, ⟨h1.ob, w _ (by decide), w _ (by decide), w _ (by decide), w _ (by decide)⟩, ⟨h1.ob, w _ (by decide), w _ (by decide), w _ (by decide), w _ (by decide)⟩, rfl, rfl⟩
     · trivial
   · trivial
 · trivial
noncomputable def asPt0C : List SV → RdM
 | [.agg [.int .i64 3, .slcc n len, .nils], .agg [.int .i64 0, .slcc m 1, .nils], .int .i64 0, .int .i64 0] => .read n fun o0 => (match intsFrom .i64 o0.c with
   | some (m0, g) => .read m fun o1 => (match intsFrom .i64 o1.c with
   | some (m1, gl) => .ret ⟨[.agg [.int .i64 3, .slcc 0 len, .nils], .agg [.int .i64 0, .slcc 1 1, .nils], .int .i64 0, .int .i64 0], [(0, ⟨false, 23, .ints .i64 m0 g, 0⟩), (1, ⟨false, 23, .ints .i64 m1 gl, 0⟩)], .tup [.bool (vPt g len (gl 0) (gl 1)), .bool (vPt g len (gl 0) (gl 1))], [], [], some (m0 = 2 * len ∧ m1 = 2 ∧ PO g len ∧ small (gl 0) ∧ small (gl 1))⟩
   | none => .fail)
   | none => .fail)
 | _ => .fail
theorem vc_asPt0 (len : Nat)  (g : Nat → Int) (gl : Nat → Int) : runA G39T0 2 [] [] (codeOf Tryz.f39) (init Tryz.f39.ntmps [.agg [.int .i64 3, .slcc 0 len, .nils], .agg [.int .i64 0, .slcc 1 1, .nils], .int .i64 0, .int .i64 0] [(0, ⟨false, 23, .ints .i64 (2 * len) g, 0⟩), (1, ⟨false, 23, .ints .i64 (2) gl, 0⟩)] 2) (endK G39T0.E.T Tryz.f39.results.toList fun S v => postP 2 ⟨[.agg [.int .i64 3, .slcc 0 len, .nils], .agg [.int .i64 0, .slcc 1 1, .nils], .int .i64 0, .int .i64 0], [(0, ⟨false, 23, .ints .i64 (2 * len) g, 0⟩), (1, ⟨false, 23, .ints .i64 (2) gl, 0⟩)], .tup [.bool (vPt g len (gl 0) (gl 1)), .bool (vPt g len (gl 0) (gl 1))], [], [], some (2 * len = 2 * len ∧ 2 = 2 ∧ PO g len ∧ small (gl 0) ∧ small (gl 1))⟩ S v) = (
 True ∧ (2 * len = 2 * len ∧ (0 : Int) = 0 ∧ len ≤ 1000000 ∧ (ppBig len true = true → ppOk (fI g) len)) ∧ (false = true → False) ∧ (false = false → (false = true →
 False) ∧ (false = false → (false = true → False) ∧ (false = false → (2 = 2 ∧ (0 : Int) ≤ 0) ∧ (2 * len = 2 * len ∧ ((len ≤ 1000000 ∧ SmF (fI g) (2 * len)) ∧
 W1 (pick (ppBig len true) (rlo (fI g) 0 len)) ∧ W1 (pick (ppBig len true) (rlo
(fI g) 1 len)) ∧ W1 (pick (ppBig len true) (rhi (fI g) 0 len)) ∧ W1 (pick
(ppBig len true) (rhi (fI g) 1 len))) ∧ W1 (ofI .f64 (crn gl 1 (0 : Int) 0)) ∧ W1 (ofI .f64
(crn gl 1 (0 : Int) 1))) ∧ (2 * len = 2 * len ∧ ((len ≤ 1000000 ∧ SmF (fI g) (2 * len)) ∧ W1 (pick
(ppBig len true) (rlo (fI g) 0 len)) ∧ W1 (pick (ppBig len true) (rlo (fI g) 1 len)) ∧
 W1 (pick (ppBig len true) (rhi (fI g) 0 len)) ∧ W1 (pick (ppBig len true) (rhi
(fI g) 1 len))) ∧ W1 (ofI .f64 (crn gl 1 (0 : Int) 0)) ∧ W1 (ofI .f64 (crn gl 1 (0 : Int) 1))) ∧ true = true
∧ ((rcp (fI g) len (nsg true len (wz (fI g))) (pick (ppBig len true) (rlo (fI
 g) 0 len)) (pick (ppBig len true) (rlo (fI g) 1 len)) (pick (ppBig len true) (rhi (fI g)
0 len)) (pick (ppBig len true) (rhi (fI g) 1 len)) (ofI .f64 (crn gl 1 (0 : Int) 0)) (ofI .f64
(crn gl 1 (0 : Int) 1)) true).1 = vPt g len (gl 0) (gl 1) ∧ (rcp (fI g) len (nsg true len (wz
(fI g))) (pick (ppBig len true) (rlo (fI g) 0 len)) (pick (ppBig len true) (rlo
(fI g) 1 len)) (pick (ppBig len true) (rhi (fI g) 0 len)) (pick (ppBig len true) (rhi
(fI g) 1 len)) (ofI .f64 (crn gl 1 (0 : Int) 0)) (ofI .f64 (crn gl 1 (0 : Int) 1)) true).1 = vPt g len (gl 0) (gl 1) ∧ True) ∧ True)))) := by kernel_rfl
theorem asPt0 : ConOk Tryz.prog 39 (conR asPt0C) := by
 refine con_of_vc g39T0 Tryz.func39 rfl (by kernel_rfl) fun args => ?_
 unfold asPt0C
 split
 · rename_i n len m
   intro o0
   show RdM.All _ (match intsFrom .i64 o0.c with | some (m, g) => _ | none => _) _
   split
   · rename_i m0 g hm0
     intro o1
     show RdM.All _ (match intsFrom .i64 o1.c with | some (m, g) => _ | none => _) _
     split
     · rename_i m1 gl hm1
       intro ho
       replace ho : m0 = 2 * len ∧ m1 = 2 ∧ PO g len ∧ small (gl 0) ∧ small (gl 1) := ho
       obtain ⟨hsz0, hsz1, ho⟩ := ho
       subst hsz0
       subst hsz1
       refine ⟨?_, _, _, (vc_asPt0 len g gl).mpr ?_⟩
       · refine okFlag_mk rfl ⟨?_, ⟨trivial, (contR_ints hm0).1, ⟨trivial, (contR_ints hm1).1, trivial⟩⟩⟩
         simp [eqvRL, eqvR, kEq_self, sgSig, fsts, nth, sameN_self]
       · obtain ⟨h1, h2⟩ := ho
         simp only [true_and, and_true, eq_self, true_implies]
         have c0 : crn gl 1 0 0 = gl 0 := rfl
         have c1 : crn gl 1 0 1 = gl 1 := rfl
         simp only [c0, c1, Bool.false_eq_true, false_implies, true_and]
         exact ⟨⟨h1.len, fun hb => h1.ppOk hb⟩, by decide, ⟨h1.ob, (w1_fI h2.1).1, (w1_fI h2.2).1⟩, ⟨h1.ob, (w1_fI h2.1).1, (w1_fI h2.2).1⟩, rfl, rfl⟩
     · trivial
   · trivial
 · trivial
end Go.Proofs.Tryz.Sx

namespace Go.Proofs.Tryz.Sx
open Go Go.Sx Go.Proofs Go.Fl Go.Geo
theorem cp_rs {meet onS lfS on lf : Nat → Bool} {al : Bool} {E : Nat} (h1 : ∀ i, i < E → meet i = false → on i = false ∧ lf i = false) (h2 : ∀ i, i < E → onS i = on i) (h3 : ∀ i, i < E → on i = false → lfS i = lf i) :
   ∀ m, m ≤ E → (cpR meet onS lfS al false (-1) m).1 = (rsR on lf m).1 ∧ ((rsR on lf m).1 = false → (cpR meet onS lfS al false (-1) m).2.1 = (rsR on lf m).2) ∧ ((rsR on lf m).1 = true → (cpR meet onS lfS al false (-1) m).2.1 = al)
 | 0, _ => ⟨rfl, fun _ => rfl, fun h => (nomatch h)⟩
 | m + 1, hm => by
   obtain ⟨i1, i2, i3⟩ := cp_rs h1 h2 h3 m (by omega)
   have ec : cpR meet onS lfS al false (-1) (m + 1) = if (cpR meet onS lfS al false (-1) m).1 = true ∨ meet m = false then cpR meet onS lfS al false (-1) m else if onS m = true then (true, al, (m : Int)) else (false, xor (cpR meet onS lfS al false (-1) m).2.1 (lfS m), (cpR meet onS lfS al false (-1) m).2.2) := rfl
   have er : rsR on lf (m + 1) = if (rsR on lf m).1 = true then rsR on lf m else if on m = true then (true, (rsR on lf m).2) else (false, (rsR on lf m).2 != lf m) := rfl
   rw [ec, er, i1]
   cases hr : (rsR on lf m).1 with
   | true =>
     rw [if_pos (.inl rfl), if_pos rfl, hr]
     exact ⟨by rw [i1, hr], fun h => (nomatch h), fun _ => i3 hr⟩
   | false =>
     rw [if_neg (show ¬ false = true by decide)]
     cases hmt : meet m with
     | false =>
       obtain ⟨o1, o2⟩ := h1 m (by omega) hmt
       rw [if_pos (.inr rfl), if_neg (by rw [o1]; decide), o2]
       refine ⟨by rw [i1, hr], fun _ => ?_, fun h => (nomatch h)⟩
       rw [i2 hr]
       simp
     | true =>
       rw [if_neg (by simp), h2 m (by omega)]
       cases ho : on m with
       | true => exact ⟨rfl, fun h => (nomatch h), fun _ => rfl⟩
       | false =>
         rw [if_neg (by decide), if_neg (by decide)]
         refine ⟨rfl, fun _ => ?_, fun h => (nomatch h)⟩
         show xor _ _ = _
         rw [i2 hr, h3 m (by omega) ho]
def par (lf : Nat → Bool) : Nat → Bool
 | 0 => false
 | i + 1 => par lf i != lf i
theorem rs_par {on lf : Nat → Bool} : ∀ m, (∀ i, i < m → on i = false) → rsR on lf m = (false, par lf m)
 | 0, _ => rfl
 | m + 1, h => by
   have er : rsR on lf (m + 1) = if (rsR on lf m).1 = true then rsR on lf m else if on m = true then (true, (rsR on lf m).2) else (false, (rsR on lf m).2 != lf m) := rfl
   rw [er, rs_par m (fun i hi => h i (by omega)), if_neg (by simp), if_neg (by rw [h m (by omega)]; simp)]
   rfl
theorem par_none {lf : Nat → Bool} : ∀ m, (∀ i, i < m → lf i = false) → par lf m = false
 | 0, _ => rfl
 | m + 1, h => by
   show (par lf m != lf m) = false
   rw [par_none m (fun i hi => h i (by omega)), h m (by omega)]
   rfl
theorem par_tele {lf s s' : Nat → Bool} {E : Nat} (h : ∀ i, i < E → lf i = (s i != s' i)) (hs : ∀ i, i + 1 < E → s' i = s (i + 1)) : ∀ m, m + 1 ≤ E → par lf (m + 1) = (s 0 != s' m)
 | 0, hm => by
   show (false != lf 0) = _
   rw [h 0 (by omega)]
   simp
 | m + 1, hm => by
   show (par lf (m + 1) != lf (m + 1)) = _
   rw [par_tele h hs m (by omega), h (m + 1) (by omega), hs m (by omega)]
   cases s 0 <;> cases s (m + 1) <;> cases s' (m + 1) <;> rfl
theorem fmin_I {x y : Nat} {a b : Int} (hx : FI x a) (hy : FI y b) : FI (fmin x y) (min a b) := by
 unfold fmin
 rw [fgt_I hx hy]
 by_cases e : b < a
 · rw [if_pos (decide_eq_true e), Int.min_eq_right (by omega)]; exact hy
 · rw [if_neg (by simpa using e), Int.min_eq_left (by omega)]; exact hx
theorem fmax_I {x y : Nat} {a b : Int} (hx : FI x a) (hy : FI y b) : FI (fmax x y) (max a b) := by
 unfold fmax
 rw [fgt_I hx hy]
 by_cases e : b < a
 · rw [if_pos (decide_eq_true e), Int.max_eq_left (by omega)]; exact hx
 · rw [if_neg (by simpa using e), Int.max_eq_right (by omega)]; exact hy
theorem ns_eq {g : Nat → Int} {n : Nat} (h : PO g n) (h3 : 3 ≤ n) : nsI g n true = nsegs n true g := by
 have w : ∀ j, j < 2 * n → wz (fI g) j = g j := fun j hj => (w1_fI (h.2 j hj)).2
 unfold nsI nsg nsegs
 rw [if_pos rfl, if_neg (show ¬ n < 3 by omega), w _ (by omega), w 0 (by omega), w _ (by omega), w 1 (by omega), if_neg (show ¬ (n < 2 ∨ true = true ∧ n < 3) by omega)]
 have e1 : 2 * (n - 1) = 2 * n - 2 := by omega
 have e2 : 2 * n - 2 + 1 = 2 * n - 1 := by omega
 rw [e1, e2]
 by_cases e : g (2 * n - 2) = g 0 ∧ g (2 * n - 1) = g 1
 · rw [if_pos e, if_neg (fun hh => hh.2 e)]
 · rw [if_neg e, if_pos ⟨rfl, e⟩]
theorem ns_cases {g : Nat → Int} {n : Nat} (h3 : 3 ≤ n) : nsegs n true g = n ∨ nsegs n true g = n - 1 ∧ g (2 * n - 2) = g 0 ∧ g (2 * n - 1) = g 1 := by
 unfold nsegs
 rw [if_neg (by omega)]
 split
 · exact .inl rfl
 · rename_i hh
   refine .inr ⟨rfl, ?_⟩
   exact Classical.not_not.1 (fun h' => hh ⟨rfl, h'⟩)
theorem eZ_at {g : Nat → Int} {n i : Nat} (hi : i < n) : eZ g n 0 i = g (2 * i) ∧ eZ g n 1 i = g (2 * i + 1) ∧ eZ g n 2 i = g (2 * nx n i) ∧ eZ g n 3 i = g (2 * nx n i + 1) := by
 have d : ∀ k, k < 4 → (4 * i + k) / 4 = i ∧ (4 * i + k) % 4 = k := fun k hk => ⟨by omega, by omega⟩
 unfold eZ segI nx
 rw [(d 0 (by decide)).1, (d 0 (by decide)).2, (d 1 (by decide)).1, (d 1 (by decide)).2, (d 2 (by decide)).1, (d 2 (by decide)).2, (d 3 (by decide)).1, (d 3 (by decide)).2]
 by_cases e : i + 1 < n
 · simp only [if_pos e, if_neg (show ¬ i + 1 = n by omega)]
   refine ⟨?_, ?_, ?_, ?_⟩ <;> first | trivial | (congr 1; omega) | congr 1
 · simp only [if_neg e, if_pos (show i + 1 = n by omega)]
   refine ⟨?_, ?_, ?_, ?_⟩ <;> simp
section
variable {g : Nat → Int} {n : Nat} (h : PO g n) (h3 : 3 ≤ n) {px py : Int}
omit h in
theorem ns_pos (h3 : 3 ≤ n) : 2 ≤ nsegs n true g ∧ nsegs n true g ≤ n := by
 rcases ns_cases (g := g) h3 with e | e <;> omega
include h h3 in
theorem rcp_in (hx : small px) (hy : small py) (al : Bool) (hb : hasF (rX0 g n true) (rX1 g n true) (rX2 g n true) (rX3 g n true) (ofI .f64 px) (ofI .f64 py) = true) :
   (rcp (fI g) n (nsI g n true) (rX0 g n true) (rX1 g n true) (rX2 g n true) (rX3 g n true) (ofI .f64 px) (ofI .f64 py) al).1 = if al = true then decide (0 ≤ rgS g n px py) else decide (1 ≤ rgS g n px py) := by
 unfold rcp
 rw [if_pos hb, ns_eq h h3]
 have hE := ns_pos (g := g) h3
 have w : ∀ j, j < 2 * n → wh (fI g j) = g j := fun j hj => wh_of (h.2 j hj)
 have hon : ∀ i, i < nsegs n true g → onS (fI g) n (ofI .f64 px) (ofI .f64 py) i = onZ g n px py i := fun i hi => by
   have hin : i < n := by omega
   have hxn := nx_lt hin
   obtain ⟨a0, a1, a2, a3⟩ := eZ_at (g := g) hin
   unfold onS onW onZ
   rw [w _ (by omega), w _ (by omega), w _ (by omega), w _ (by omega), wh_of hx, wh_of hy, a0, a1, a2, a3]
 have hlf : ∀ i, i < nsegs n true g → onZ g n px py i = false → lfS (fI g) n (ofI .f64 px) (ofI .f64 py) i = lfZ g n px py i := fun i hi ho => by
   have hin : i < n := by omega
   have hxn := nx_lt hin
   obtain ⟨a0, a1, a2, a3⟩ := eZ_at (g := g) hin
   unfold lfS lfW lfZ
   rw [w _ (by omega), w _ (by omega), w _ (by omega), w _ (by omega), wh_of hx, wh_of hy, a0, a1, a2, a3]
   unfold onZ at ho
   rw [a0, a1, a2, a3] at ho
   have ho := of_decide_eq_false ho
   exact decide_eq_decide.2 ⟨fun hh => hh.2, fun hh => ⟨ho, hh⟩⟩
 have hmt : ∀ i, i < nsegs n true g → mtF (fI g) n ninfw (ofI .f64 py) infw (ofI .f64 py) i = false → onZ g n px py i = false ∧ lfZ g n px py i = false := fun i hi hm => by
   have hin : i < n := by omega
   have hxn := nx_lt hin
   obtain ⟨a0, a1, a2, a3⟩ := eZ_at (g := g) hin
   have f : ∀ j, j < 2 * n → FI (fI g j) (g j) := fun j hj => fi (h.2 j hj)
   unfold mtF at hm
   rw [fgt_inf' (fmin_I (f (2 * i) (by omega)) (f (2 * nx n i) (by omega))).1, flt_ninf (fmax_I (f (2 * i) (by omega)) (f (2 * nx n i) (by omega))).1,
     fgt_I (fmin_I (f (2 * i + 1) (by omega)) (f (2 * nx n i + 1) (by omega))) (fi hy), flt_I (fmax_I (f (2 * i + 1) (by omega)) (f (2 * nx n i + 1) (by omega))) (fi hy)] at hm
   simp only [Bool.not_false, Bool.and_true, Bool.and_eq_false_iff, Bool.not_eq_false', decide_eq_true_eq] at hm
   constructor
   · refine decide_eq_false fun hh => ?_
     rw [a0, a1, a2, a3] at hh
     have := hh.2.1
     unfold btw at this
     omega
   · refine decide_eq_false fun hh => ?_
     rw [a0, a1, a2, a3] at hh
     unfold Lft at hh
     omega
 obtain ⟨c1, c2, c3⟩ := cp_rs (al := al) hmt hon hlf (nsegs n true g) (Nat.le_refl _)
 unfold cpV rgS rsV
 cases hr : (rsR (onZ g n px py) (lfZ g n px py) (nsegs n true g)).1 with
 | true =>
   rw [c3 hr, if_pos rfl]
   cases al <;> rfl
 | false =>
   rw [c2 hr, if_neg (show ¬ false = true by decide)]
   cases (rsR (onZ g n px py) (lfZ g n px py) (nsegs n true g)).2 <;> cases al <;> rfl
include h h3 in
theorem has_iff (hx : small px) (hy : small py) : hasF (rX0 g n true) (rX1 g n true) (rX2 g n true) (rX3 g n true) (ofI .f64 px) (ofI .f64 py) = decide (loZ g 0 n ≤ px ∧ px ≤ hiZ g 0 n ∧ loZ g 1 n ≤ py ∧ py ≤ hiZ g 1 n) := by
 have hb : ppBig n true = true := decide_eq_true ⟨by omega, fun _ => h3⟩
 have l0 := (lo_F (whl_fI h.2) (k := 0) (by decide) n (Nat.le_refl _)).1
 have l1 := (lo_F (whl_fI h.2) (k := 1) (by decide) n (Nat.le_refl _)).1
 have u0 := (hi_F (whl_fI h.2) (k := 0) (by decide) n (Nat.le_refl _)).1
 have u1 := (hi_F (whl_fI h.2) (k := 1) (by decide) n (Nat.le_refl _)).1
 unfold hasF rX0 rX1 rX2 rX3 pick
 rw [hb, if_pos rfl, if_pos rfl, if_pos rfl, if_pos rfl, fge_I (fi hx) l0, fle_I (fi hx) u0, fge_I (fi hy) l1, fle_I (fi hy) u1]
 simp only [Bool.decide_and, Bool.and_assoc]
include h3 in
theorem rg_out (hb : ¬ (loZ g 0 n ≤ px ∧ px ≤ hiZ g 0 n ∧ loZ g 1 n ≤ py ∧ py ≤ hiZ g 1 n)) : rgS g n px py = -1 := by
 have hE := ns_pos (g := g) h3
 have lo : ∀ k j, j < n → loZ g k n ≤ g (2 * j + k) := fun k j hj => loZ_le hj
 have hi : ∀ k j, j < n → g (2 * j + k) ≤ hiZ g k n := fun k j hj => hiZ_ge hj
 have hon : ∀ i, i < nsegs n true g → onZ g n px py i = false := fun i hi' => by
   have hin : i < n := by omega
   have hxn := nx_lt hin
   obtain ⟨a0, a1, a2, a3⟩ := eZ_at (g := g) hin
   refine decide_eq_false fun hh => hb ?_
   rw [a0, a1, a2, a3] at hh
   obtain ⟨h1, h2, _⟩ := hh
   have b1 := lo 0 i hin
   have b2 := lo 0 _ hxn
   have b3 := lo 1 i hin
   have b4 := lo 1 _ hxn
   have c1 := hi 0 i hin
   have c2 := hi 0 _ hxn
   have c3 := hi 1 i hin
   have c4 := hi 1 _ hxn
   rw [Nat.add_zero] at b1 b2 c1 c2
   unfold btw at h1 h2
   omega
 unfold rgS
 rw [rs_par _ hon]
 have hp : par (lfZ g n px py) (nsegs n true g) = false := by
   by_cases hl : px < loZ g 0 n
   · have ht := par_tele (lf := lfZ g n px py) (E := nsegs n true g) (s := fun i => decide (g (2 * i + 1) ≤ py)) (s' := fun i => decide (g (2 * nx n i + 1) ≤ py)) (fun i hi' => by
       have hin : i < n := by omega
       have hxn := nx_lt hin
       obtain ⟨a0, a1, a2, a3⟩ := eZ_at (g := g) hin
       have ho := of_decide_eq_false (hon i hi')
       rw [a0, a1, a2, a3] at ho
       have b1 := lo 0 i hin
       have b2 := lo 0 _ hxn
       rw [Nat.add_zero] at b1 b2
       have hl1 := left_of ho (p1 := px) (p2 := py)
       have e : lfZ g n px py i = decide (Lft (g (2 * i)) (g (2 * i + 1)) (g (2 * nx n i)) (g (2 * nx n i + 1)) px py) := by unfold lfZ; rw [a0, a1, a2, a3]
       rw [e]
       by_cases u1 : g (2 * i + 1) ≤ py <;> by_cases u2 : g (2 * nx n i + 1) ≤ py
       · rw [decide_eq_true u1, decide_eq_true u2, decide_eq_false]
         · rfl
         · intro hh
           unfold Lft at hh
           omega
       · rw [decide_eq_true u1, decide_eq_false u2, decide_eq_true (hl1 (.inl ⟨by omega, u1, by omega⟩) (by omega) (by omega))]
         rfl
       · rw [decide_eq_false u1, decide_eq_true u2, decide_eq_true (hl1 (.inr ⟨by omega, u2, by omega⟩) (by omega) (by omega))]
         rfl
       · rw [decide_eq_false u1, decide_eq_false u2, decide_eq_false]
         · rfl
         · intro hh
           unfold Lft at hh
           omega) (fun i hi' => by
       have : nx n i = i + 1 := if_neg (by omega)
       simp only [this]) (nsegs n true g - 1) (by omega)
     rw [show nsegs n true g - 1 + 1 = nsegs n true g by omega] at ht
     rw [ht]
     have : g (2 * nx n (nsegs n true g - 1) + 1) = g 1 := by
       rcases ns_cases (g := g) h3 with e | ⟨e, e1, e2⟩
       · rw [e]
         have : nx n (n - 1) = 0 := if_pos (by omega)
         rw [this]
       · rw [e]
         have : nx n (n - 1 - 1) = n - 1 := by unfold nx; rw [if_neg (by omega)]; omega
         rw [this, show 2 * (n - 1) + 1 = 2 * n - 1 by omega, e2]
     simp only [this]
     simp
   · refine par_none _ fun i hi' => ?_
     have hin : i < n := by omega
     have hxn := nx_lt hin
     obtain ⟨a0, a1, a2, a3⟩ := eZ_at (g := g) hin
     refine decide_eq_false fun hh => ?_
     rw [a0, a1, a2, a3] at hh
     have b3 := lo 1 i hin
     have b4 := lo 1 _ hxn
     have c1 := hi 0 i hin
     have c2 := hi 0 _ hxn
     have c3 := hi 1 i hin
     have c4 := hi 1 _ hxn
     rw [Nat.add_zero] at c1 c2
     have hr := fun f h1 h2 => right_of (a1 := g (2 * i)) (a2 := g (2 * i + 1)) (b1 := g (2 * nx n i)) (b2 := g (2 * nx n i + 1)) (p1 := px) (p2 := py) f h1 h2 hh
     unfold Lft at hh
     rcases hh with ⟨f1, f2, f3, _⟩ | ⟨f1, f2, f3, _⟩
     · exact hr (.inr ⟨f1, f2, f3⟩) (by omega) (by omega)
     · exact hr (.inl ⟨by omega, f2, f3⟩) (by omega) (by omega)
 rw [hp]
 rfl
include h h3 in
theorem rcp_rg (hx : small px) (hy : small py) (al : Bool) :
   (rcp (fI g) n (nsI g n true) (rX0 g n true) (rX1 g n true) (rX2 g n true) (rX3 g n true) (ofI .f64 px) (ofI .f64 py) al).1 = if al = true then decide (0 ≤ rgS g n px py) else decide (1 ≤ rgS g n px py) := by
 cases hb : hasF (rX0 g n true) (rX1 g n true) (rX2 g n true) (rX3 g n true) (ofI .f64 px) (ofI .f64 py) with
 | true => exact rcp_in h h3 hx hy al hb
 | false =>
   have hb' := hb
   rw [has_iff h h3 hx hy] at hb'
   rw [rg_out h3 (of_decide_eq_false hb')]
   unfold rcp
   rw [if_neg (by rw [hb]; decide)]
   cases al <;> rfl
end
end Go.Proofs.Tryz.Sx

namespace Go.Proofs.Tryz.Sx
open Go Go.Sx Go.Proofs Go.Fl Go.Geo
theorem allB_at {p : Nat → Bool} : ∀ {m i : Nat}, allB p m = true → i < m → p i = true
 | 0, i, _, hi => by omega
 | m + 1, i, h, hi => by
   have h : (allB p m && p m) = true := h
   rw [Bool.and_eq_true] at h
   by_cases e : i = m
   · subst e; exact h.2
   · exact allB_at h.1 (by omega)
theorem allB_congr {p q : Nat → Bool} {m : Nat} (h : ∀ i, i < m → p i = q i) : allB p m = allB q m := by
 cases e : allB q m with
 | true => exact allB_all fun i hi => by rw [h i hi]; exact allB_at e hi
 | false =>
   cases e' : allB p m with
   | false => rfl
   | true =>
     have := allB_all (p := q) (m := m) fun i hi => by rw [← h i hi]; exact allB_at e' hi
     rw [e] at this
     cases this
theorem cross_tri (a1 a2 b1 b2 c1 c2 : Int) : (b1 - a1) * (c2 - b2) - (b2 - a2) * (c1 - b1) = cross a1 a2 b1 b2 c1 c2 := by
 unfold cross; grind
theorem cv_parts {g : Nat → Int} {n : Nat} (hc : isCv g n = true) : 3 ≤ nsegs n true g ∧ 3 ≤ n ∧ ∀ i, i < nsegs n true g → tn1 g n (nsegs n true g) i = true := by
 unfold isCv isCvE at hc
 simp only [Bool.and_eq_true] at hc
 have h3 := of_decide_eq_true hc.1
 refine ⟨h3, ?_, fun i hi => ?_⟩
 · have := nsegs_le n true g; omega
 · have := allB_at hc.2.1 hi
   unfold okE at this
   simp only [Bool.and_eq_true] at this
   exact this.1
theorem tn1_cross {g : Nat → Int} {n E i : Nat} (h : tn1 g n E i = true) : 0 ≤ sdE g n i (eZ g n 2 (nxE E i)) (eZ g n 3 (nxE E i)) := by
 unfold tn1 at h
 simp only [Bool.not_eq_true', Bool.or_eq_false_iff, decide_eq_false_iff_not] at h
 omega
theorem zc_nonneg {g : Nat → Int} {n : Nat} (hc : isCv g n = true) {i : Nat} (hi : i < n) : 0 ≤ zcZ g n i := by
 obtain ⟨h3, hn, ht⟩ := cv_parts hc
 have key : i < nsegs n true g → nxE (nsegs n true g) i < n → nx n (nxE (nsegs n true g) i) = nx2 n i → nxE (nsegs n true g) i = nx n i → 0 ≤ zcZ g n i := fun h1 h2 h4 h5 => by
   have := tn1_cross (ht i h1)
   unfold sdE at this
   obtain ⟨a0, a1, a2, a3⟩ := eZ_at (g := g) hi
   obtain ⟨_, _, b2, b3⟩ := eZ_at (g := g) h2
   rw [a0, a1, a2, a3, b2, b3, h4] at this
   unfold zcZ
   rw [cross_tri]
   exact this
 rcases ns_cases (g := g) hn with e | ⟨e, e1, e2⟩
 · rw [e] at key
   refine key hi ?_ ?_ rfl
   · exact nx_lt hi
   · unfold nxE nx nx2
     repeat' split
     all_goals omega
 · by_cases u : i + 2 < n
   · rw [e] at key
     refine key (by omega) ?_ ?_ ?_
     · unfold nxE; split <;> omega
     · unfold nxE nx nx2
       repeat' split
       all_goals omega
     · unfold nxE nx
       repeat' split
       all_goals omega
   · have z0 : zcZ g n i = 0 := by
       have e3 : 2 * (n - 1) = 2 * n - 2 := by omega
       have e4 : 2 * (n - 1) + 1 = 2 * n - 1 := by omega
       by_cases v : i + 1 = n
       · have : i = n - 1 := by omega
         have hx : nx n (n - 1) = 0 := if_pos (by omega)
         subst this
         unfold zcZ
         rw [hx, e4, e3, e1, e2]
         simp
       · have hx : nx n i = n - 1 := by unfold nx; rw [if_neg v]; omega
         have hx2 : nx2 n i = 0 := by unfold nx2; rw [if_neg v, if_pos (by omega)]
         unfold zcZ
         rw [hx, hx2, e3, show 2 * n - 2 + 1 = 2 * n - 1 by omega, e1, e2]
         simp
     omega
theorem dc_conv {z : Nat → Int} {n : Nat} : ∀ m, (∀ i, i < m → 0 ≤ zcZ z n i) → (dcZ z n m).2 = false ∧ ((dcZ z n m).1 = 0 ∨ (dcZ z n m).1 = 1)
 | 0, _ => ⟨rfl, .inl rfl⟩
 | m + 1, h => by
   obtain ⟨h1, h2⟩ := dc_conv m fun i hi => h i (by omega)
   have hz := h m (by omega)
   have e : dcZ z n (m + 1) = dStepZ (dcZ z n m).1 (dcZ z n m).2 (zcZ z n m) := rfl
   rw [e]
   unfold dStepZ
   rw [h1, if_neg (show ¬ false = true by decide)]
   rcases h2 with h2 | h2 <;> rw [h2]
   · rw [if_pos rfl, if_neg (by omega)]
     split
     · exact ⟨rfl, .inr rfl⟩
     · exact ⟨rfl, .inl rfl⟩
   · rw [if_neg (by decide), if_neg (by omega)]
     split
     · exact ⟨by decide, .inr rfl⟩
     · exact ⟨rfl, .inr rfl⟩
theorem cv_flag {g : Nat → Int} {n : Nat} (h : PO g n) (hc : isCv g n = true) : pCv g n true = true := by
 have hn := (cv_parts hc).2.1
 have hb : ppBig n true = true := decide_eq_true ⟨by omega, fun _ => hn⟩
 unfold pCv
 rw [hb, dc_F (whl_fI h.2) (by omega) n (Nat.le_refl _), (dc_conv n fun i hi => zc_nonneg hc hi).1]
 rfl
theorem X_FI {g : Nat → Int} {n : Nat} {cl : Bool} (h : PO g n) (hb : ppBig n cl = true) : FI (rX0 g n cl) (loZ g 0 n) ∧ FI (rX1 g n cl) (loZ g 1 n) ∧ FI (rX2 g n cl) (hiZ g 0 n) ∧ FI (rX3 g n cl) (hiZ g 1 n) := by
 unfold rX0 rX1 rX2 rX3 pick
 rw [hb, if_pos rfl, if_pos rfl, if_pos rfl, if_pos rfl]
 exact ⟨(lo_F (whl_fI h.2) (by decide) n (Nat.le_refl _)).1, (lo_F (whl_fI h.2) (by decide) n (Nat.le_refl _)).1, (hi_F (whl_fI h.2) (by decide) n (Nat.le_refl _)).1, (hi_F (whl_fI h.2) (by decide) n (Nat.le_refl _)).1⟩
def sdB (g : Nat → Int) (n : Nat) (al : Bool) (x y : Int) : Bool := if al = true then decide (0 ≤ rgS g n x y) else decide (1 ≤ rgS g n x y)
theorem sdB_box {g : Nat → Int} {n : Nat} (h3 : 3 ≤ n) {al : Bool} {x y : Int} (h : sdB g n al x y = true) : loZ g 0 n ≤ x ∧ x ≤ hiZ g 0 n ∧ loZ g 1 n ≤ y ∧ y ≤ hiZ g 1 n := by
 refine Classical.not_not.1 fun hn => ?_
 have := rg_out h3 hn
 unfold sdB at h
 rw [this] at h
 cases al <;> simp at h
theorem vC_conv {g k : Nat → Int} {n m : Nat} {cl2 al : Bool} (h : PO g n) (hk : PO k m) (h3 : 3 ≤ n) (hv : pCv g n true = true) (hb : ppBig m cl2 = true) (hm : m < 16) :
   vC g n k m cl2 al = allB (fun i => sdB g n al (k (2 * i)) (k (2 * i + 1))) m := by
 have hb' := of_decide_eq_true hb
 have e1 : emp true n = false := decide_eq_false (by omega)
 have e2 : emp cl2 m = false := decide_eq_false fun hh => by
   rcases hh with hh | ⟨hh, hh'⟩
   · omega
   · have := hb'.2 hh; omega
 have hbn : ppBig n true = true := decide_eq_true ⟨by omega, fun _ => h3⟩
 have ep : allB (sPs (fI g) n (nsI g n true) (rX0 g n true) (rX1 g n true) (rX2 g n true) (rX3 g n true) (fI k) al) m = allB (fun i => sdB g n al (k (2 * i)) (k (2 * i + 1))) m := allB_congr fun i hi => by
   unfold sPs
   exact rcp_rg h h3 (hk.2 _ (by omega)) (hk.2 _ (by omega)) al
 unfold vC rcrS
 rw [e1, e2, decide_eq_false (show ¬ 16 ≤ m by omega), hv, if_pos rfl, ep]
 simp only [Bool.not_false, Bool.true_and, Bool.false_and, Bool.false_or]
 cases ea : allB (fun i => sdB g n al (k (2 * i)) (k (2 * i + 1))) m with
 | false => simp
 | true =>
   obtain ⟨x0, x1, x2, x3⟩ := X_FI h hbn
   obtain ⟨y0, y1, y2, y3⟩ := X_FI hk hb
   rw [Bool.and_true]
   have box := fun j (hj : j < m) => sdB_box h3 (allB_at ea hj)
   obtain ⟨j0, hj0, f0⟩ := loZ_at (z := k) (k := 0) (show 0 < m by omega)
   obtain ⟨j1, hj1, f1⟩ := loZ_at (z := k) (k := 1) (show 0 < m by omega)
   obtain ⟨j2, hj2, f2⟩ := hiZ_at (z := k) (k := 0) (show 0 < m by omega)
   obtain ⟨j3, hj3, f3⟩ := hiZ_at (z := k) (k := 1) (show 0 < m by omega)
   rw [Nat.add_zero] at f0 f2
   have b0 := (box j0 hj0).1
   have b1 := (box j1 hj1).2.2.1
   have b2 := (box j2 hj2).2.1
   have b3 := (box j3 hj3).2.2.2
   unfold inF
   rw [flt_I y0 x0, fgt_I y2 x2, flt_I y1 x1, fgt_I y3 x3, decide_eq_false (by omega), decide_eq_false (by omega), decide_eq_false (by omega), decide_eq_false (by omega)]
   rfl
theorem vCR_conv {g : Nat → Int} {n : Nat} {a b c d : Int} (h : PO g n) (h3 : 3 ≤ n) (hv : pCv g n true = true) (ha : small a) (hb : small b) (hc : small c) (hd : small d) :
   vCR g n a b c d = (sdB g n true a b && sdB g n true c b && sdB g n true c d && sdB g n true a d) := by
 have e1 : emp true n = false := decide_eq_false (by omega)
 have hbn : ppBig n true = true := decide_eq_true ⟨by omega, fun _ => h3⟩
 have ep : allB (rPt (fI g) n (nsI g n true) (rX0 g n true) (rX1 g n true) (rX2 g n true) (rX3 g n true) (ofI .f64 a) (ofI .f64 b) (ofI .f64 c) (ofI .f64 d) true) 5 = (sdB g n true a b && sdB g n true c b && sdB g n true c d && sdB g n true a d) := by
   have r := fun x y hx hy => rcp_rg (px := x) (py := y) h h3 hx hy true
   show (((((true && (rcp _ _ _ _ _ _ _ (ofI .f64 a) (ofI .f64 b) true).1) && (rcp _ _ _ _ _ _ _ (ofI .f64 c) (ofI .f64 b) true).1) && (rcp _ _ _ _ _ _ _ (ofI .f64 c) (ofI .f64 d) true).1) && (rcp _ _ _ _ _ _ _ (ofI .f64 a) (ofI .f64 d) true).1) && (rcp _ _ _ _ _ _ _ (ofI .f64 a) (ofI .f64 b) true).1) = _
   rw [r a b ha hb, r c b hc hb, r c d hc hd, r a d ha hd]
   show (((((true && sdB g n true a b) && sdB g n true c b) && sdB g n true c d) && sdB g n true a d) && sdB g n true a b) = _
   cases sdB g n true a b <;> simp
 unfold vCR rcrR
 rw [e1, hv, if_pos rfl, ep]
 simp only [Bool.not_false, Bool.true_and]
 cases ea : (sdB g n true a b && sdB g n true c b && sdB g n true c d && sdB g n true a d) with
 | false => simp
 | true =>
   simp only [Bool.and_eq_true] at ea
   have b0 := sdB_box h3 ea.1.1.1
   have b1 := sdB_box h3 ea.1.2
   obtain ⟨x0, x1, x2, x3⟩ := X_FI h hbn
   rw [Bool.and_true]
   unfold inF
   rw [flt_I (fi ha) x0, fgt_I (fi hc) x2, flt_I (fi hb) x1, fgt_I (fi hd) x3, decide_eq_false (by omega), decide_eq_false (by omega), decide_eq_false (by omega), decide_eq_false (by omega)]
   rfl
end Go.Proofs.Tryz.Sx

namespace Go.Proofs.Tryz.Sx
open Go Go.Sx Go.Proofs Go.Fl Go.Geo
set_option maxRecDepth 100000
noncomputable def GPA : Ctx := ⟨⟨tys, []⟩, [(39, conR asPt0C)]⟩
theorem gPA : CtxOk Tryz.prog GPA := ⟨⟨tysOk, FlatsOk.nil⟩, GamOk.cons asPt0 GamOk.nil, by kernel_rfl⟩
def polyAwF : PF := fun
 | [] => some (.tt, none)
 | _ => none
theorem vc_polyAw (R : SV → Prop) : runA GPA 0 [] [] (codeOf Tryz.f50) (init Tryz.f50.ntmps [] [] 0) (endK GPA.E.T Tryz.f50.results.toList fun _ v => R v) = (
(8 = 8 ∧ 2 = 2 ∧ PO (fun (i : Nat) => List.getD [(0 : Int), (0 : Int), (2 : Int), (0 : Int), (2 : Int), (2 : Int), (0 : Int), (2 : Int)] i (0 : Int)) 4 ∧ small (1 : Int) ∧
 small (1 : Int)) ∧ (true = true → R (SV.bool true)) ∧ (true = false → R SV.ff)) := by kernel_rfl
theorem polyAw : PureOk Tryz.prog 50 polyAwF := by
 refine pure_of_vc gPA Tryz.func50 rfl (by kernel_rfl) ?_
 intro args v p h hp
 unfold polyAwF at h
 split at h
 · injection h with h; injection h with h1 h2; subst h1; subst h2
   clear hp
   refine ⟨rfl, _, _, (vc_polyAw _).mpr ?_⟩
   have s1 : small 1 := by unfold small; omega
   simp only [eq_self, true_and]
   refine ⟨⟨⟨by decide, fun j hj => ?_⟩, s1, s1⟩, fun _ => by simp [eqv], fun h => nomatch h⟩
   have : j = 0 ∨ j = 1 ∨ j = 2 ∨ j = 3 ∨ j = 4 ∨ j = 5 ∨ j = 6 ∨ j = 7 := by omega
   rcases this with rfl | rfl | rfl | rfl | rfl | rfl | rfl | rfl <;> (unfold small; simp)
 · cases h
def ig2 (g : Nat → Int) : Fam := ⟨Nat, fun i =>
 ⟨30, [(5, .slc 0 0 2 2), (6, .int .i64 2), (7, .int .i64 i)], [(0, ⟨false, 28, .ints .i64 4 g, 0⟩)], 1⟩, fun i => i ≤ 2 ∧ ∀ j, j < 2 * i → small (g j), fun i => 2 - i⟩
noncomputable def isGeo2C : List SV → RdM
 | [.slc n 0 2 2] => .read n fun o0 => (match intsFrom .i64 o0.c with
   | some (m0, g) => .ret ⟨[.slc 0 0 2 2], [(0, ⟨false, 28, .ints .i64 m0 g, 0⟩)], .bool (geoAll 4 g), [], [], some (m0 = 4 ∧ True)⟩
   | none => .fail)
 | _ => .fail
theorem vc_isGeo2 (g : Nat → Int) : runA G0 1 [(2, ig2 g)] [] (codeOf Tryz.f19) (init Tryz.f19.ntmps [.slc 0 0 2 2] [(0, ⟨false, 28, .ints .i64 (4) g, 0⟩)] 1) (endK G0.E.T Tryz.f19.results.toList fun S v => postP 1 ⟨[.slc 0 0 2 2], [(0, ⟨false, 28, .ints .i64 (4) g, 0⟩)], .bool (geoAll 4 g), [], [], some (4 = 4 ∧ True)⟩ S v) = (
(∃ (i : Nat), (i ≤ 2 ∧ ∀ (j : Nat), j < 2 * i → small (g j)) ∧ ((True ∧ 0 = 0 ∧ 2 = 2 ∧ 2 = 2) ∧ (2 : Int) = 2 ∧ 0 = (↑i : Int) ∧ True) ∧ True ∧ (4 ≤ 4 ∧ ∀ (i : Nat), i < 4 → g i = g i) ∧ True) ∧ ∀ (i : Nat), (i ≤ 2 ∧ ∀ (j : Nat), j < 2 * i → small (g j)) → (decide ((↑i : Int) < 2) = true → ((0 ≤ (↑i : Int) ∧ (↑i : Int) < (2
: Int)) ∧ 1 ≤ 4) ∧ 0 + Int.toNat (↑i : Int) * 2 + 2 ≤ 4 ∧ (decide (g (0 + Int.toNat (↑i : Int) * 2) < (-1048576 : Int)) = true → geoAll 4 g = false ∧ True) ∧
(decide (g (0 + Int.toNat (↑i : Int) * 2) < (-1048576 : Int)) = false → (decide ((1048576 : Int) < g (0 + Int.toNat (↑i : Int) * 2)) = true → geoAll 4 g = false ∧ True) ∧ (decide ((1048576 :
 Int) < g (0 + Int.toNat (↑i : Int) * 2)) = false → (decide (g (0 + Int.toNat (↑i : Int) * 2 + 1) < (-1048576 : Int)) = true → geoAll 4 g = false ∧ True) ∧ (decide (g (0 +
 Int.toNat (↑i : Int) * 2 + 1) < (-1048576 : Int)) = false → (decide ((1048576 : Int) < g (0 + Int.toNat (↑i : Int) * 2 + 1)) = true → geoAll 4 g = false ∧ True) ∧ (decide ((1048576 :
 Int) < g (0 + Int.toNat (↑i : Int) * 2 + 1)) = false → ∃ (i' : Nat), (i' ≤ 2 ∧ ∀ (j : Nat), j < 2 * i' → small (g j)) ∧ 2 - i' < 2 - i ∧ ((True ∧ 0 = 0 ∧ 2 = 2 ∧ 2 = 2) ∧ (2 : Int) = 2 ∧ Go.IntKind.wrap .i64 ((↑i : Int) + 1) = (↑i' : Int) ∧ True) ∧ True ∧ (4 ≤ 4 ∧ ∀ (i : Nat), i < 4 → g i = g i) ∧ True))))) ∧ (decide ((↑i : Int) < (2 :
 Int)) = false → geoAll 4 g = true ∧ True)) := by kernel_rfl
theorem isGeo2 : ConOk Tryz.prog 19 (conR isGeo2C) := by
 refine con_of_vc g0 Tryz.func19 rfl (by kernel_rfl) fun args => ?_
 unfold isGeo2C
 split
 · rename_i n
   intro o0
   show RdM.All _ (match intsFrom .i64 o0.c with | some (m, g) => _ | none => _) _
   split
   · rename_i m0 g hm0
     intro ho
     replace ho : m0 = 4 ∧ True := ho
     obtain ⟨hsz0, ho⟩ := ho
     subst hsz0
     refine ⟨?_, _, _, (vc_isGeo2 g).mpr ?_⟩
     · refine okFlag_mk rfl ⟨?_, ⟨trivial, (contR_ints hm0).1, trivial⟩⟩
       simp [eqvRL, eqvR, sgSig, fsts, nth, sameN_self]
     · have bad : ∀ j, j < 4 → ¬ small (g j) → geoAll 4 g = false := fun j hj h => decide_eq_false fun hh => h (hh j hj)
       refine ⟨⟨0, ⟨by omega, fun j hj => by omega⟩, by simp⟩, fun i hi => ⟨fun h => ?_, fun h => ?_⟩⟩
       · have hi2 : i < 2 := by have := of_decide_eq_true h; omega
         have hw : IntKind.i64.wrap ((i : Int) + 1) = ((i + 1 : Nat) : Int) := by rw [wrap64 (by omega) (by omega)]; omega
         have e0 : g (0 + i * 2) = g (2 * i) := by congr 1; omega
         have e1 : g (0 + i * 2 + 1) = g (2 * i + 1) := by congr 1; omega
         simp only [true_and, and_true, eq_self, Nat.le_refl, implies_true, Int.toNat_natCast, hw, e0, e1, decide_eq_true_eq, decide_eq_false_iff_not]
         refine ⟨⟨⟨by omega, by omega⟩, by omega⟩, by omega, fun q => bad (2 * i) (by omega) (by unfold small; omega), fun q1 => ⟨fun q => bad (2 * i) (by omega) (by unfold small; omega), fun q2 => ⟨fun q => bad (2 * i + 1) (by omega) (by unfold small; omega), fun q3 => ⟨fun q => bad (2 * i + 1) (by omega) (by unfold small; omega), fun q4 => ⟨i + 1, ⟨by omega, fun j hj => ?_⟩, by omega, rfl⟩⟩⟩⟩⟩
         by_cases u : j < 2 * i
         · exact hi.2 j u
         · have : j = 2 * i ∨ j = 2 * i + 1 := by omega
           rcases this with rfl | rfl <;> (unfold small; omega)
       · have h := of_decide_eq_false h
         have : i = 2 := by omega
         subst this
         exact ⟨decide_eq_true fun j hj => hi.2 j hj, trivial⟩
   · trivial
 · trivial
noncomputable def isGeoS : Con := swC slcIs (conR isGeo2C) (conR isGeoC)
theorem isGeoS_ok : ConOk Tryz.prog 19 isGeoS := ConOk.sw isGeo2 isGeo
def kind2 (k : Nat) : List SV → Bool
 | _ :: .agg (.int _ (.ofNat n) :: _) :: _ => Nat.beq n k
 | _ => false
noncomputable def askP : Con := swC (kind2 1) (conR asRc0C) (swC (kind2 2) (conR asLn0C) (conR asPo0C))
theorem askP_ok : ConOk Tryz.prog 39 askP := ConOk.sw asRc0 (ConOk.sw asLn0 asPo0)
noncomputable def GCX : Ctx := ⟨⟨tys, FL⟩, [(19, isGeoS), (53, conR isConvexC), (48, conR polySh0C), (51, conR polyLnC), (39, askP), (54, conR polyRcC), (55, conR allInC), (56, conR corners4C), (50, pureCon polyAwF)]⟩
theorem gCX : CtxOk Tryz.prog GCX := ⟨⟨tysOk, flOk⟩, GamOk.cons isGeoS_ok (GamOk.cons isConvex (GamOk.cons polySh0 (GamOk.cons polyLn (GamOk.cons askP_ok (GamOk.cons polyRc (GamOk.cons allIn (GamOk.cons corners4 (GamOk.cons (.pure polyAw) GamOk.nil)))))))), by kernel_rfl⟩
noncomputable def lawCvxC : List SV → RdM
 | [.slcc n lg, .slcc m ll, .slcc o lo, .agg [.int .i64 a, .int .i64 b, .int .i64 c, .int .i64 d]] => .read n fun o0 => (match intsFrom .i64 o0.c with
   | some (m0, g) => .read m fun o1 => (match intsFrom .i64 o1.c with
   | some (m1, gl) => .read o fun o2 => (match intsFrom .i64 o2.c with
   | some (m2, go) => .ret ⟨[.slcc 0 lg, .slcc 1 ll, .slcc 2 lo, .agg [.int .i64 a, .int .i64 b, .int .i64 c, .int .i64 d]], [(0, ⟨false, 28, .ints .i64 m0 g, 0⟩), (1, ⟨false, 28, .ints .i64 m1 gl, 0⟩), (2, ⟨false, 28, .ints .i64 m2 go, 0⟩)], .tt, [], [], some (m0 = 2 * lg ∧ m1 = 2 * ll ∧ m2 = 2 * lo ∧ True)⟩
   | none => .fail)
   | none => .fail)
   | none => .fail)
 | _ => .fail
theorem vc_lawCvx (lg ll lo : Nat) (a b c d : Int)  (g : Nat → Int) (gl : Nat → Int) (go : Nat → Int) : runA GCX 3 [] [] (codeOf Tryz.f11) (init Tryz.f11.ntmps [.slcc 0 lg, .slcc 1 ll, .slcc 2 lo, .agg [.int .i64 a, .int .i64 b, .int .i64 c, .int .i64 d]] [(0, ⟨false, 28, .ints .i64 (2 * lg) g, 0⟩), (1, ⟨false, 28, .ints .i64 (2 * ll) gl, 0⟩), (2, ⟨false, 28, .ints .i64 (2 * lo) go, 0⟩)] 3) (endK GCX.E.T Tryz.f11.results.toList fun S v => postP 3 ⟨[.slcc 0 lg, .slcc 1 ll, .slcc 2 lo, .agg [.int .i64 a, .int .i64 b, .int .i64 c, .int .i64 d]], [(0, ⟨false, 28, .ints .i64 (2 * lg) g, 0⟩), (1, ⟨false, 28, .ints .i64 (2 * ll) gl, 0⟩), (2, ⟨false, 28, .ints .i64 (2 * lo) go, 0⟩)], .tt, [], [], some (2 * lg = 2 * lg ∧ 2 * ll = 2 * ll ∧ 2 * lo = 2 * lo ∧ True)⟩ S v) = (
(decide (2147483647 < (↑lg : Int)) = true → True ∧ True) ∧ (decide (2147483647 < (↑lg : Int)) = false → (decide (2147483647 < (↑ll : Int)) = true → True ∧ True) ∧ (decide (2147483647 < (↑ll : Int)) = false → (decide
(2147483647 < (↑lo : Int)) = true → True ∧ True) ∧ (decide (2147483647 < (↑lo : Int)) = false → (decide (30 < (↑lg : Int)) = true → True ∧ True) ∧ (decide (30 < (↑lg : Int)) = false → (2 * lg = 2 * lg ∧
 lg ≤ 1000000) ∧ ((!geoAll (2 * lg) g) = true → True ∧ True) ∧ ((!geoAll (2 * lg) g) = false → (2 * lg = 2 * lg ∧ lg ≤ 1000000 ∧ ∀ (j : Nat), j < 2 * lg →
 small (g j)) ∧ ((!isCv g lg) = true → True ∧ True) ∧ ((!isCv g lg) = false → (decide ((↑ll : Int) < 2) = true → True ∧ True) ∧ (decide ((↑ll : Int) < 2) = false → (decide ((15 :
 Int) < (↑ll : Int)) = true → True ∧ True) ∧ (decide (15 < (↑ll : Int)) = false → (decide ((↑lo : Int) < 3) = true → True ∧ True) ∧ (decide ((↑lo : Int) < 3) = false → (decide (15 < (↑lo : Int)) = true → True ∧ True) ∧
(decide (15 < (↑lo : Int)) = false → (2 * ll = 2 * ll ∧ ll ≤ 1000000) ∧ ((!geoAll (2 * ll) gl) = true → True ∧ True) ∧ ((!geoAll (2 * ll) gl) = false → (2 *
 lo = 2 * lo ∧ lo ≤ 1000000) ∧ ((!geoAll (2 * lo) go) = true → True ∧ True) ∧ ((!geoAll (2 * lo) go) = false → (List.length [a, b, c, d] = 4 ∧ True) ∧
((!geoAll 4 fun (i : Nat) => List.getD [a, b, c, d] i (0 : Int)) = true → True ∧ True) ∧ ((!geoAll 4 fun (i : Nat) => List.getD [a, b, c, d] i (0 : Int)) = false → (((0 : Int) ≤ 0 ∧ (0 :
 Int) < (2 : Int)) ∧ True) ∧ (((0 : Int) ≤ 1 ∧ (1 : Int) < 2) ∧ True) ∧ (decide (c < a) = true → True ∧ True) ∧ (decide (c < a) = false → (((0 : Int) ≤ 0 ∧ (0 : Int) < 2) ∧ True) ∧ (((0 : Int) ≤ 1 ∧ (1 : Int) <
(2 : Int)) ∧ True) ∧ (decide (d < b) = true → True ∧ True) ∧ (decide (d < b) = false → (2 * lg = 2 * lg ∧ lg ≤ 1000000) ∧ (2 * ll = 2 * ll ∧ ll ≤ 1000000) ∧ (2 * lg = 2 * lg ∧ 2
* ll = 2 * ll ∧ PO g lg ∧ PO gl ll) ∧ true = true ∧ (2 * lo = 2 * lo ∧ lo ≤ 1000000) ∧ (2 * lg = 2 * lg ∧ 2 * lo = 2 * lo ∧ PO g lg
∧ PO go lo) ∧ true = true ∧ True ∧ (2 * lg = 2 * lg ∧ 4 = 4 ∧ PO g lg ∧ ∀ (j : Nat), j < 4 → small (pq4 a b c d j)) ∧ true = true ∧ (2 * lg = 2 * lg ∧ 2 * ll = 2 * ll ∧ (lg ≤ 1000000 ∧ ll ≤ 1000000) ∧ (∀ (j : Nat), j < 2 * lg → small (g j)) ∧ ∀ (j : Nat), j < 2 * ll → small (gl j)) ∧
((vC g lg gl ll false true == allB (aiIP g gl lg) ll) = true → (2 * lg = 2 * lg ∧ 2 * lo = 2 * lo ∧ (lg ≤ 1000000 ∧ lo ≤ 1000000) ∧ (∀ (j : Nat), j
< 2 * lg → small (g j)) ∧ ∀ (j : Nat), j < 2 * lo → small (go j)) ∧ ((vC g lg go lo true true == allB (aiIP g go lg) lo) = true → True ∧ (2 * lg = 2 * lg ∧ List.length [a, b, c, b, c, d, a, d, a, b] = 10 ∧ (lg ≤ 1000000 ∧ 5 ≤ 1000000) ∧ (∀ (j : Nat), j < 2 * lg → small (g j)) ∧ ∀ (j : Nat), j < 10 →
 small (List.getD [a, b, c, b, c, d, a, d, a, b] j (0 : Int))) ∧ ((vCR g lg (pq4 a b c d 0) (pq4 a b c d 1) (pq4 a b c d 2)
(pq4 a b c d 3) == allB (aiIP g (fun (i : Nat) => List.getD [a, b, c, b, c, d, a, d, a, b] i (0 : Int)) lg) 5) = true → True ∧ True) ∧ ((vCR g lg
(pq4 a b c d 0) (pq4 a b c d 1) (pq4 a b c d 2) (pq4 a b c d 3) == allB (aiIP g (fun (i : Nat) => List.getD
[a, b, c, b, c, d, a, d, a, b] i (0 : Int)) lg) 5) = false → False ∧ True)) ∧ ((vC g lg go lo true true == allB (aiIP g go lg) lo) = false → False ∧ True)) ∧ ((vC g lg gl
 ll false true == allB (aiIP g gl lg) ll) = false → False ∧ True))))))))))))))))) := by kernel_rfl
theorem lawCvx : ConOk Tryz.prog 11 (conR lawCvxC) := by
 refine con_of_vc gCX Tryz.func11 rfl (by kernel_rfl) fun args => ?_
 unfold lawCvxC
 split
 · rename_i n lg m ll o lo a b c d
   intro o0
   show RdM.All _ (match intsFrom .i64 o0.c with | some (m, g) => _ | none => _) _
   split
   · rename_i m0 g hm0
     intro o1
     show RdM.All _ (match intsFrom .i64 o1.c with | some (m, g) => _ | none => _) _
     split
     · rename_i m1 gl hm1
       intro o2
       show RdM.All _ (match intsFrom .i64 o2.c with | some (m, g) => _ | none => _) _
       split
       · rename_i m2 go hm2
         intro ho
         replace ho : m0 = 2 * lg ∧ m1 = 2 * ll ∧ m2 = 2 * lo ∧ True := ho
         obtain ⟨hsz0, hsz1, hsz2, ho⟩ := ho
         subst hsz0
         subst hsz1
         subst hsz2
         refine ⟨?_, _, _, (vc_lawCvx lg ll lo a b c d g gl go).mpr ?_⟩
         · refine okFlag_mk rfl ⟨?_, ⟨trivial, (contR_ints hm0).1, ⟨trivial, (contR_ints hm1).1, ⟨trivial, (contR_ints hm2).1, trivial⟩⟩⟩⟩
           simp [eqvRL, eqvR, kEq_self, sgSig, fsts, nth, sameN_self]
         · simp only [true_and, and_true, eq_self, implies_true, decide_eq_false_iff_not, Bool.not_eq_false']
           intro a1 a2 a3 a4
           refine ⟨by omega, fun a5 => ?_⟩
           have hg := of_decide_eq_true a5
           refine ⟨⟨by omega, hg⟩, fun a6 a7 a8 a9 a10 => ⟨by omega, fun a11 => ⟨by omega, fun a12 => ?_⟩⟩⟩
           have hgl := of_decide_eq_true a11
           have hgo := of_decide_eq_true a12
           have hp : PO g lg := ⟨by omega, hg⟩
           have hpl : PO gl ll := ⟨by omega, hgl⟩
           have hpo : PO go lo := ⟨by omega, hgo⟩
           have h3 := (cv_parts a6).2.1
           have hv := cv_flag hp a6
           have z1 : vC g lg gl ll false true = allB (aiIP g gl lg) ll := by
             rw [vC_conv (cl2 := false) hp hpl h3 hv (decide_eq_true ⟨by omega, fun h => by cases h⟩) (by omega)]
             exact allB_congr fun i hi => rfl
           have z2 : vC g lg go lo true true = allB (aiIP g go lg) lo := by
             rw [vC_conv (cl2 := true) hp hpo h3 hv (decide_eq_true ⟨by omega, fun _ => by omega⟩) (by omega)]
             exact allB_congr fun i hi => rfl
           refine ⟨rfl, fun a13 => ⟨⟨by omega, by omega⟩, ⟨by omega, by omega⟩, fun a14 => ⟨⟨by omega, by omega⟩, ⟨by omega, by omega⟩, fun a15 => ?_⟩⟩⟩
           have hr := of_decide_eq_true a13
           have sa : small a := hr 0 (by omega)
           have sb : small b := hr 1 (by omega)
           have sc : small c := hr 2 (by omega)
           have sd : small d := hr 3 (by omega)
           have z3 : vCR g lg (pq4 a b c d 0) (pq4 a b c d 1) (pq4 a b c d 2) (pq4 a b c d 3) = allB (aiIP g (fun i => [a, b, c, b, c, d, a, d, a, b].getD i 0) lg) 5 := by
             show vCR g lg a b c d = _
             rw [vCR_conv hp h3 hv sa sb sc sd]
             show _ = (((((true && sdB g lg true a b) && sdB g lg true c b) && sdB g lg true c d) && sdB g lg true a d) && sdB g lg true a b)
             cases sdB g lg true a b <;> simp
           refine ⟨by omega, by omega, ⟨hp, hpl⟩, by omega, ⟨hp, hpo⟩, ⟨hp, hr⟩, ⟨⟨by omega, by omega⟩, hg, hgl⟩, fun _ => ⟨⟨⟨by omega, by omega⟩, hg, hgo⟩, fun _ => ⟨⟨rfl, ⟨by omega, by omega⟩, hg, fun j hj => ?_⟩, fun q => ?_⟩, fun q => ?_⟩, fun q => ?_⟩
           · have : j = 0 ∨ j = 1 ∨ j = 2 ∨ j = 3 ∨ j = 4 ∨ j = 5 ∨ j = 6 ∨ j = 7 ∨ j = 8 ∨ j = 9 := by omega
             rcases this with rfl | rfl | rfl | rfl | rfl | rfl | rfl | rfl | rfl | rfl <;> assumption
           · rw [z3] at q; simp at q
           · rw [z2] at q; simp at q
           · rw [z1] at q; simp at q
       · trivial
     · trivial
   · trivial
 · trivial
end Go.Proofs.Tryz.Sx

namespace Go.Sx
open Go.RowKit Go.ChangeShapes Go.WideShapes Go.ChangeAt
section
variable {H : Type} {enc : TypeId × Value → H} {P : Program}
theorem trodAll_below (hl : laidOutB P = true) {W W' : World} (hb : Below W.heap.size W W') : ∀ {ts : List TypeId} {vs : List Value} {ds : List (DataW H)} {ps : List MemPlace},
   (ts.all fun t => P.readableRec t && decide (t < P.types.size)) = true → DataW.TrodAll enc P W 0 (fun _ => true) true ts vs ds ps → (∀ x ∈ ps, x.block < W.heap.size) →
   DataW.TrodAll enc P W' 0 (fun b => decide (b < W.heap.size)) true ts vs ds ps
 | [], vs, ds, ps, _, h, _ => by
   cases vs <;> cases ds <;> simp_all [DataW.TrodAll]
 | t :: ts, vs, ds, ps, ht, h, hlt => by
   obtain ⟨v, vs', d, ds', p, q, rfl, rfl, rfl, h1, h2⟩ := trodAll_cons h
   simp only [List.all_cons, Bool.and_eq_true, decide_eq_true_eq] at ht
   exact ⟨p, q, Below.trod hl ht.1.1 ht.1.2 h1 hb (fun x hx => hlt x (by simp [hx])), trodAll_below hl hb ht.2 h2 (fun x hx => hlt x (by simp [hx])), rfl⟩
theorem post_true (hl : laidOutB P = true) {f : Func} {s : ChangeSpec} {apart : Bool} {W W' : World} {args : Array Value} {ds : List (DataW H)} {before : List MemPlace}
   (hW : DataW.Whole enc P f.params.toList s.vars apart W args.toList ds [] before) (hb : Below W.heap.size W W') {bt : TypeId} (hbt : P.underlying bt = some .bool) (hr : f.resultTypes = #[bt])
   (hvars : s.vars = []) (hres : (s.fn H (ds ++ [])).results = [.lit (.bool true)]) (hargs : (s.fn H (ds ++ [])).args = ds) (hvs : (s.fn H (ds ++ [])).vars = [])
   (hp : (f.params.toList.all fun t => P.readableRec t && decide (t < P.types.size)) = true) :
   s.post enc P f apart true false false W args (.bool true) W' := by
 have hW' := hW
 obtain ⟨p, q, hA, hV, hpq, _, _⟩ := hW
 rw [hvars] at hV
 obtain ⟨_, rfl⟩ := trodVars_none hV
 rw [List.append_nil] at hpq
 subst hpq
 refine ⟨ds, [], before, [], before, [], hW', ?_, ?_, ?_, hb.frame _, fun h => by cases h⟩
 · rw [hres, hr]
   exact trodAll_mk1 (shut_bool hbt true)
 · rw [hargs]
   exact trodAll_below hl hb hp hA (fun x hx => by simpa using hW'.lt x hx)
 · rw [hvars, hvs]; rfl
end
end Go.Sx

namespace Go.Sx
open Go.RowKit Go.ChangeShapes Go.WideShapes Go.ChangeAt
section
variable {P : Program} {W : World} {r : Reach} {b0 : Nat}
theorem int_cell {u : TypeId} {v : Value} (hu : P.underlying u = some (.int .i64)) (h : Cell.okWide P W r b0 u v) : ∃ n : Int, v = .int .i64 n := by
 unfold Cell.okWide at h
 rw [hu] at h
 simp only at h
 unfold Cell.ok at h
 rw [hu] at h
 cases v <;> simp only at h
 exact ⟨_, by rw [h.1]⟩
theorem open_ints {t : TypeId} {v : Value} {ts : List TypeId} {n : Nat} (ha : (∃ fs, P.underlying t = some (.struct fs)) ∨ (∃ m e, P.underlying t = some (.array m e))) (hc : P.cellTypes P.depth t = some ts)
   (hts : ∀ u ∈ ts, P.underlying u = some (.int .i64)) (hn : P.cellsOf t = n) (hv : Value.okWide P W r b0 t v) : ∃ l : List Int, l.length = n ∧ v = .agg (l.map (Value.int .i64)).toArray := by
 have key : ∃ cs, v = .agg cs ∧ cs.size = P.cellsOf t ∧ Row.okWide P W r b0 t cs := by
   unfold Value.okWide at hv
   rcases ha with ⟨fs, h⟩ | ⟨m, e, h⟩ <;> (rw [h] at hv; exact hv)
 obtain ⟨cs, rfl, hsz, ts', hts', _, hcell⟩ := key
 rw [hc] at hts'
 simp only [Option.some.injEq] at hts'
 subst hts'
 have hall : ∀ v ∈ cs.toList, ∃ n : Int, v = .int .i64 n := by
   intro v hv
   obtain ⟨i, hi, rfl⟩ := List.getElem_of_mem hv
   obtain ⟨u, hu, hok⟩ := hcell i _ (by rw [Array.getElem?_eq_getElem (by simpa using hi)])
   exact int_cell (hts u (List.mem_of_getElem? hu)) hok
 have : ∃ l : List Int, cs.toList = l.map (Value.int .i64) := by
   clear hcell hsz hv
   generalize cs.toList = L at hall
   induction L with
   | nil => exact ⟨[], rfl⟩
   | cons x r ih =>
     obtain ⟨n, rfl⟩ := hall x (by simp)
     obtain ⟨l, hl⟩ := ih (fun v hv => hall v (by simp [hv]))
     exact ⟨n :: l, by simp [hl]⟩
 obtain ⟨l, hl⟩ := this
 refine ⟨l, ?_, ?_⟩
 · have := congrArg List.length hl
   simp at this
   omega
 · rw [← hl]
theorem list4 {α : Type} {l : List α} (h : l.length = 4) : ∃ a b c d, l = [a, b, c, d] := by
 match l, h with
 | [a, b, c, d], _ => exact ⟨a, b, c, d, rfl⟩
end
end Go.Sx

namespace Go.Sx
open Go.RowKit Go.ChangeShapes Go.WideShapes Go.ChangeAt
section
variable {H : Type} {enc : TypeId × Value → H} {P : Program} {W : World} {r : Reach} {b0 : Nat}
def IntsAt (W : World) (a : Option Addr) (cap n : Nat) (g : Nat → Int) : Prop := match a with
 | none => n = 0 ∧ cap = 0
 | some a => a.spot = none ∧ ∀ j, j < n → W.cell? ⟨a.block, a.off + j, none⟩ = some (.int .i64 (g j))
theorem addr_add (a : Addr) (n : Nat) (h : a.spot = none) : a.add n = ⟨a.block, a.off + n, none⟩ := by
 obtain ⟨b, o, s⟩ := a
 simp only at h
 subst h
 exact Addr.add_lit ..
theorem open_pts {t e : TypeId} {f0 f1 : Field} (ht : P.underlying t = some (.slice e)) (he : P.underlying e = some (.struct #[f0, f1])) (ce : P.cellsOf e = 2) (o0 : f0.offset = 0) (o1 : f1.offset = 1)
   (c0 : P.cellsOf f0.type = 1) (c1 : P.cellsOf f1.type = 1) (u0 : P.underlying f0.type = some (.int .i64)) (u1 : P.underlying f1.type = some (.int .i64)) {v : Value} {d : DataW H} {ps : List MemPlace}
   (hv : Value.okWide P W r b0 t v) (hd : DataW.Trod enc P W 0 (fun _ => true) true t v d ps) : ∃ a len cap g, v = .slice a len cap ∧ cap ≤ maxLen ∧ IntsAt W a cap (2 * len) g := by
 obtain ⟨fuel, hf⟩ := hd
 have hok : Cell.okWide P W r b0 t v := by
   unfold Value.okWide at hv
   rw [ht] at hv
   exact hv
 have hvs : v.cells.toList = [v] ∨ ∃ cs, v = .agg cs := by
   cases v <;> first | exact .inr ⟨_, rfl⟩ | exact .inl rfl
 have hvc : v.cells.toList = [v] := by
   rcases hvs with h | ⟨cs, rfl⟩
   · exact h
   · unfold Cell.okWide Cell.ok at hok
     rw [ht] at hok
     exact hok.elim
 rw [hvc] at hf
 rcases Go.Deep.open_slice ht hf with ⟨hcs, _⟩ | ⟨a, len, cap, m, n, D, Pl, hcs, _, hl, hm, hmm, _, hx⟩
 · simp only [List.cons.injEq, and_true] at hcs
   subst hcs
   exact ⟨none, 0, 0, fun _ => 0, rfl, by decide, rfl, rfl⟩
 · simp only [List.cons.injEq, and_true] at hcs
   subst hcs
   have hspot : a.spot = none := by
     unfold Cell.okWide Cell.ok at hok
     rw [ht] at hok
     exact hok.2.2.2.1
   have hcells : ∀ i, i < len → ∃ x y : Int, W.cell? ⟨a.block, a.off + 2 * i, none⟩ = some (.int .i64 x) ∧ W.cell? ⟨a.block, a.off + (2 * i + 1), none⟩ = some (.int .i64 y) := by
     intro i hi
     have hlm : len ≤ m := by rw [hmm]; simpa using hl
     obtain ⟨cs', h1, h2⟩ := hx i (by omega)
     rw [ce] at h1
     obtain ⟨_, hlen, hcell⟩ := World.cells?_some h1
     obtain ⟨xs, k, _, _, _, hxl, hfs⟩ := DataW.trod_struct he h2
     match xs, hxl, cs', hlen with
     | [y0, y1], _, [v0, v1], _ =>
       have g0 := hfs 0 f0 rfl
       have g1 := hfs 1 f1 rfl
       simp [o0, o1, c0, c1] at g0 g1
       have e0 := hcell 0 (by omega)
       have e1 := hcell 1 (by omega)
       obtain ⟨x, hx', _⟩ := DataW.trod_int u0 g0
       obtain ⟨y, hy', _⟩ := DataW.trod_int u1 g1
       simp only [List.cons.injEq, and_true] at hx' hy'
       subst hx' hy'
       refine ⟨x, y, ?_, ?_⟩
       · rw [← show (a.add (i * 2)).add 0 = (⟨a.block, a.off + 2 * i, none⟩ : Addr) by rw [addr_add a _ hspot]; show Addr.mk _ _ _ = _; congr 1; simp; omega]
         simpa using e0
       · rw [← show (a.add (i * 2)).add 1 = (⟨a.block, a.off + (2 * i + 1), none⟩ : Addr) by rw [addr_add a _ hspot]; show Addr.mk _ _ _ = _; congr 1; simp; omega]
         simpa using e1
   obtain ⟨q, hq⟩ : ∃ q : Nat → Int × Int, ∀ i, i < len → W.cell? ⟨a.block, a.off + 2 * i, none⟩ = some (.int .i64 (q i).1) ∧ W.cell? ⟨a.block, a.off + (2 * i + 1), none⟩ = some (.int .i64 (q i).2) := by
     refine ⟨fun i => if h : i < len then ((hcells i h).choose, (hcells i h).choose_spec.choose) else (0, 0), fun i hi => ?_⟩
     simp only [hi, dif_pos]
     exact (hcells i hi).choose_spec.choose_spec
   refine ⟨some a, len, cap, fun j => if j % 2 = 0 then (q (j / 2)).1 else (q (j / 2)).2, rfl, hm, hspot, fun j hj => ?_⟩
   have h2 := hq (j / 2) (by omega)
   by_cases hp : j % 2 = 0
   · have e : j = 2 * (j / 2) := by omega
     simp only [hp, if_pos]
     rw [← h2.1]
     congr 2
     omega
   · simp only [hp, if_false]
     rw [← h2.2]
     congr 2
     omega
end
section
variable {P : Program} {W : World}
theorem hsat_ro {k : Nat} {H : Heap} {ρ : Rho} (hk : ∀ n o, look H n = some o → n < k ∧ o.rw = false ∧ o.c.bd (· < k) ∧ OSat W ρ o (ρ n)) : HSat W (· < W.heap.size) (· < k) H ρ W where
 os := rfl
 tape := rfl
 output := rfl
 size := Nat.le_refl _
 frlt := fun _ h => h
 frame := fun _ _ => rfl
 used := fun n o h => (hk n o h).1
 bd := fun n o h => (hk n o h).2.2.1
 obj := fun n o h => (hk n o h).2.2.2
 inj := fun n _ o _ _ _ h _ _ hr => by rw [(hk n o h).2.1] at hr; cases hr
 free := fun n o _ h hr => by rw [(hk n o h).2.1] at hr; cases hr
theorem HSat.toBelow {U : Nm → Prop} {H : Heap} {ρ : Rho} {W' : World} (h : HSat W (· < W.heap.size) U H ρ W') : Below W.heap.size W W' :=
 ⟨h.os, h.tape, h.output, h.size, fun k hk => h.frame k hk⟩
theorem calls_of_con {f k : Nat} {C : Con} {fn : Func} (h : ConOk P f C) (hf : P.funcs[f]? = some fn) (hb : fn.body.isNone = false) (hnm : (fn.name == "runtime.NumGoroutine") = false)
   {args : List SV} {H : Heap} {ρ : Rho} {e : Eff} (hk : ∀ n o, look H n = some o → n < k ∧ o.rw = false ∧ o.c.bd (· < k) ∧ OSat W ρ o (ρ n)) (ha : bdL (· < k) args)
   (hc : C args (look H) k = some e) (ho : okP e.obl) (hv : e.val = some .tt) :
   Calls P f (denL ρ args).toArray W fun en w' => en = .returned (.bool true) ∧ Below W.heap.size W w' := by
 have := h.calls (hsat_ro hk) ha (fun j _ (h : k + j < k) => absurd h (by omega)) hc ho
 rcases this with ⟨_, h1⟩ | ⟨v', w', h1, _⟩
 · refine h1.mono ?_
   rintro en w' ⟨ρ', _, h2, v, h3, _, rfl⟩
   rw [hv] at h3
   simp only [Option.some.injEq] at h3
   subst h3
   exact ⟨rfl, h2.toBelow⟩
 · simp only [callFunc, Sem.run_bind, run_program, Result.andThen_ok, hf, hnm, hb, Bool.false_eq_true, if_false, Sem.run_pure] at h1
   cases h1
end
def rhoOf (a : Option Addr) (cap : Nat) : Option (Nat × Nat × Nat) := a.map fun a => (a.block, a.off, cap)
theorem osat_ints {W : World} {ρ : Rho} {a : Option Addr} {cap n e : Nat} {g : Nat → Int} (h : IntsAt W a cap n g) : OSat W ρ ⟨false, e, .ints .i64 n g, 0⟩ (rhoOf a cap) := by
 cases a with
 | none => exact h.1
 | some a => exact ⟨fun i hi => h.2 i hi, fun h => by cases h⟩
theorem den_slcc {ρ : Rho} {n : Nm} {a : Option Addr} {cap len m : Nat} {W : World} {g : Nat → Int} (hρ : ρ n = rhoOf a cap) (h : IntsAt W a cap m g) : (SV.slcc n len).den ρ = .slice a len cap := by
 show Value.slice (ρ.addr n 0) len (ρ.cap n) = _
 unfold Rho.addr Rho.cap
 rw [hρ]
 cases a with
 | none => simp [rhoOf, h.2]
 | some a =>
   obtain ⟨b, o, s⟩ := a
   have := h.1
   simp only at this
   subst this
   rfl
end Go.Sx
