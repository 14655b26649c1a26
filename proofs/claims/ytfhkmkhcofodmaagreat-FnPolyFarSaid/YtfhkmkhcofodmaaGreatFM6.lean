/- Parts of a proof, in order: what each says stands at its head. No conditions. -/
import Derived.Test.YtfhkmkhcofodmaaGreatFM5
import Derived.Test.YtfhkmkhcofodmaaGreatFM4
namespace Go.Proofs.Tryz.Sx
open Go Go.Sx Go.Proofs Go.Fl Go.Geo
set_option maxRecDepth 100000
noncomputable def Gpcq : Ctx := ⟨⟨tys, []⟩, [(174, conR rcpSC)]⟩
theorem gpcq : CtxOk Tryz.prog Gpcq := ⟨⟨tysOk, FlatsOk.nil⟩, GamOk.cons rcpS GamOk.nil, by kernel_rfl⟩
noncomputable def pcq0C : List SV → RdM
 | [.ptr P 0, .agg [.flt .f64 px, .flt .f64 py]] => .read P fun o0 => (match po0 o0.c with
   | some s => .read s fun o1 => (match serOf o1.c with
   | some (cl, cw, cv, k, x, y, z, w, q, n) => .read q fun o2 => (match fltsFrom .f64 o2.c with
   | some (m2, g) => .ret ⟨[.ptr 0 0, .agg [.flt .f64 px, .flt .f64 py]], [(0, ⟨false, 137, .cells [.ifc 157 (.ptr 1 0), .nils], 0⟩), (1, ⟨false, 150, serC cl cw cv k x y z w 2 n, 0⟩), (2, ⟨false, 100, .flts .f64 m2 g, 0⟩)], .bool (rcp g n (nsg cl n (wz g)) x y z w px py true).1, [], [], some (m2 = 2 * n ∧ ((n ≤ 1000000 ∧ SmF g (2 * n)) ∧ (W1 x ∧ W1 y ∧ W1 z ∧ W1 w)) ∧ W1 px ∧ W1 py)⟩
   | none => .fail)
   | none => .fail)
   | none => .fail)
 | _ => .fail
theorem vc_pcq0 (cl cw cv : Bool) (k : Int) (x y z w : Nat) (_ : Nm) (n : Nat) (_ : Nm) (px py : Nat)  (g : Nat → Nat) : runA Gpcq 3 [(7, .unr [⟨Nat, fun _ => ⟨40, [(5, .tt), (28, .nils), (29, .int .i64 0), (30, .int .i64 0)], [], 4⟩, fun _ => (rcp g n (nsg cl n (wz g)) x y z w px py true).1 = true, fun _ => 0⟩])] [] (codeOf Tryz.f171) (init Tryz.f171.ntmps [.ptr 0 0, .agg [.flt .f64 px, .flt .f64 py]] [(0, ⟨false, 137, .cells [.ifc 157 (.ptr 1 0), .nils], 0⟩), (1, ⟨false, 150, serC cl cw cv k x y z w 2 n, 0⟩), (2, ⟨false, 100, .flts .f64 (2 * n) g, 0⟩)] 3) (endK Gpcq.E.T Tryz.f171.results.toList fun S v => postP 3 ⟨[.ptr 0 0, .agg [.flt .f64 px, .flt .f64 py]], [(0, ⟨false, 137, .cells [.ifc 157 (.ptr 1 0), .nils], 0⟩), (1, ⟨false, 150, serC cl cw cv k x y z w 2 n, 0⟩), (2, ⟨false, 100, .flts .f64 (2 * n) g, 0⟩)], .bool (rcp g n (nsg cl n (wz g)) x y z w px py true).1, [], [], some (2 * n = 2 * n ∧ ((n ≤ 1000000 ∧ SmF g (2 * n)) ∧ (W1 x ∧ W1 y ∧ W1 z ∧ W1 w)) ∧ W1 px ∧ W1 py)⟩ S v) = (
(2 * n = 2 * n ∧ n ≤ 1000000 ∧ SmF g (2 * n) ∧ W1 px ∧ W1 py) ∧ true = true ∧ ((!(rcp g n (nsg cl n
(wz g)) x y z w px py true).1) = true → (rcp g n (nsg cl n (wz g)) x y z w px py true).1 = false ∧ True) ∧ ((!(rcp g n (nsg cl n
(wz g)) x y z w px py true).1) = false → (∃ (_ : Nat), (rcp g n (nsg cl n (wz g)) x y z w px py true).1 = true ∧ (True ∧ True ∧ (0 : Int) = 0 ∧ (0 : Int) = 0
∧ True) ∧ True) ∧ (∀ (_ : Nat), (rcp g n (nsg cl n (wz g)) x y z w px py true).1 = true → (false = true → False) ∧ (false = false → (rcp g n
(nsg cl n (wz g)) x y z w px py true).1 = true ∧ True)) ∧ True)) := by kernel_rfl
theorem pcq0 : ConOk Tryz.prog 171 (conR pcq0C) := by
 refine con_of_vc gpcq Tryz.func171 rfl (by kernel_rfl) fun args => ?_
 unfold pcq0C
 split
 · rename_i P px py
   intro o0
   show RdM.All _ (match po0 o0.c with | some s => _ | none => _) _
   split
   · rename_i s hm0
     intro o1
     show RdM.All _ (match serOf o1.c with | some (cl, cw, cv, k, x, y, z, w, q, n) => _ | none => _) _
     split
     · rename_i cl cw cv k x y z w q n hm1
       intro o2
       show RdM.All _ (match fltsFrom .f64 o2.c with | some (m, g) => _ | none => _) _
       split
       · rename_i m2 g hm2
         intro ho
         replace ho : m2 = 2 * n ∧ ((n ≤ 1000000 ∧ SmF g (2 * n)) ∧ (W1 x ∧ W1 y ∧ W1 z ∧ W1 w)) ∧ W1 px ∧ W1 py := ho
         obtain ⟨hsz2, ho⟩ := ho
         subst hsz2
         refine ⟨?_, _, _, (vc_pcq0 cl cw cv k x y z w q n s px py g).mpr ?_⟩
         · refine okFlag_mk rfl ⟨?_, ⟨trivial, po0_spec hm0 (by simp [sgSig, fsts, nth, sameN_self]), ⟨trivial, serOf_spec hm1 (by simp [sgSig, fsts, nth, sameN_self]), ⟨trivial, (contR_flts hm2).1, trivial⟩⟩⟩⟩
           simp [eqvRL, eqvR, fkEq_self, sgSig, fsts, nth, sameN_self]
         · generalize hv : (rcp g n (nsg cl n (wz g)) x y z w px py true).1 = r
           cases r <;> simp [ho]
       · trivial
     · trivial
   · trivial
 · trivial
noncomputable def Gpiq : Ctx := ⟨⟨tys, []⟩, [(171, conR pcq0C)]⟩
theorem gpiq : CtxOk Tryz.prog Gpiq := ⟨⟨tysOk, FlatsOk.nil⟩, GamOk.cons pcq0 GamOk.nil, by kernel_rfl⟩
noncomputable def piq0C : List SV → RdM
 | [.ptr P 0, .agg [.flt .f64 px, .flt .f64 py]] => .read P fun o0 => (match po0 o0.c with
   | some s => .read s fun o1 => (match serOf o1.c with
   | some (cl, cw, cv, k, x, y, z, w, q, n) => .read q fun o2 => (match fltsFrom .f64 o2.c with
   | some (m2, g) => .ret ⟨[.ptr 0 0, .agg [.flt .f64 px, .flt .f64 py]], [(0, ⟨false, 137, .cells [.ifc 157 (.ptr 1 0), .nils], 0⟩), (1, ⟨false, 150, serC cl cw cv k x y z w 2 n, 0⟩), (2, ⟨false, 100, .flts .f64 m2 g, 0⟩)], .bool (rcp g n (nsg cl n (wz g)) x y z w px py true).1, [], [], some (m2 = 2 * n ∧ ((n ≤ 1000000 ∧ SmF g (2 * n)) ∧ (W1 x ∧ W1 y ∧ W1 z ∧ W1 w)) ∧ W1 px ∧ W1 py)⟩
   | none => .fail)
   | none => .fail)
   | none => .fail)
 | _ => .fail
theorem vc_piq0 (cl cw cv : Bool) (k : Int) (x y z w : Nat) (_ : Nm) (n : Nat) (_ : Nm) (px py : Nat)  (g : Nat → Nat) : runA Gpiq 3 [] [] (codeOf Tryz.f168) (init Tryz.f168.ntmps [.ptr 0 0, .agg [.flt .f64 px, .flt .f64 py]] [(0, ⟨false, 137, .cells [.ifc 157 (.ptr 1 0), .nils], 0⟩), (1, ⟨false, 150, serC cl cw cv k x y z w 2 n, 0⟩), (2, ⟨false, 100, .flts .f64 (2 * n) g, 0⟩)] 3) (endK Gpiq.E.T Tryz.f168.results.toList fun S v => postP 3 ⟨[.ptr 0 0, .agg [.flt .f64 px, .flt .f64 py]], [(0, ⟨false, 137, .cells [.ifc 157 (.ptr 1 0), .nils], 0⟩), (1, ⟨false, 150, serC cl cw cv k x y z w 2 n, 0⟩), (2, ⟨false, 100, .flts .f64 (2 * n) g, 0⟩)], .bool (rcp g n (nsg cl n (wz g)) x y z w px py true).1, [], [], some (2 * n = 2 * n ∧ ((n ≤ 1000000 ∧ SmF g (2 * n)) ∧ (W1 x ∧ W1 y ∧ W1 z ∧ W1 w)) ∧ W1 px ∧ W1 py)⟩ S v) = (
(2 * n = 2 * n ∧ ((n ≤ 1000000 ∧ SmF g (2 * n)) ∧ W1 x ∧ W1 y ∧ W1 z ∧ W1 w) ∧ W1 px ∧ W1
 py) ∧ (rcp g n (nsg cl n (wz g)) x y z w px py true).1 = (rcp g n (nsg cl n (wz g)) x y z w px py true).1 ∧ True) := by kernel_rfl
theorem piq0 : ConOk Tryz.prog 168 (conR piq0C) := by
 refine con_of_vc gpiq Tryz.func168 rfl (by kernel_rfl) fun args => ?_
 unfold piq0C
 split
 · rename_i P px py
   intro o0
   show RdM.All _ (match po0 o0.c with | some s => _ | none => _) _
   split
   · rename_i s hm0
     intro o1
     show RdM.All _ (match serOf o1.c with | some (cl, cw, cv, k, x, y, z, w, q, n) => _ | none => _) _
     split
     · rename_i cl cw cv k x y z w q n hm1
       intro o2
       show RdM.All _ (match fltsFrom .f64 o2.c with | some (m, g) => _ | none => _) _
       split
       · rename_i m2 g hm2
         intro ho
         replace ho : m2 = 2 * n ∧ ((n ≤ 1000000 ∧ SmF g (2 * n)) ∧ (W1 x ∧ W1 y ∧ W1 z ∧ W1 w)) ∧ W1 px ∧ W1 py := ho
         obtain ⟨hsz2, ho⟩ := ho
         subst hsz2
         refine ⟨?_, _, _, (vc_piq0 cl cw cv k x y z w q n s px py g).mpr ?_⟩
         · refine okFlag_mk rfl ⟨?_, ⟨trivial, po0_spec hm0 (by simp [sgSig, fsts, nth, sameN_self]), ⟨trivial, serOf_spec hm1 (by simp [sgSig, fsts, nth, sameN_self]), ⟨trivial, (contR_flts hm2).1, trivial⟩⟩⟩⟩
           simp [eqvRL, eqvR, fkEq_self, sgSig, fsts, nth, sameN_self]
         · generalize hv : (rcp g n (nsg cl n (wz g)) x y z w px py true).1 = r
           cases r <;> simp [ho]
       · trivial
     · trivial
   · trivial
 · trivial
section
variable (g : Nat → Int) (n : Nat) (cl : Bool)
def rX0 : Nat := pick (ppBig n cl) (rlo (fI g) 0 n)
def rX1 : Nat := pick (ppBig n cl) (rlo (fI g) 1 n)
def rX2 : Nat := pick (ppBig n cl) (rhi (fI g) 0 n)
def rX3 : Nat := pick (ppBig n cl) (rhi (fI g) 1 n)
noncomputable def nsI : Nat := nsg cl n (wz (fI g))
end
section
variable (g : Nat → Int) (n : Nat)
def PO : Prop := n ≤ 64 ∧ ∀ j, j < 2 * n → small (g j)
noncomputable def vPt (x y : Int) : Bool := (rcp (fI g) n (nsI g n true) (rX0 g n true) (rX1 g n true) (rX2 g n true) (rX3 g n true) (ofI .f64 x) (ofI .f64 y) true).1
end
section
variable {g : Nat → Int} {n : Nat} (h : PO g n)
include h
theorem PO.len : n ≤ 1000000 := by have := h.1; omega
theorem PO.smF : SmF (fI g) (2 * n) := fun j hj => (w1_fI (h.2 j hj)).1
theorem PO.ppOk {cl : Bool} (hb : ppBig n cl = true) : ppOk (fI g) n := by
 have h2 : 2 ≤ n := (of_decide_eq_true hb).1
 exact ppOk_F h.1 (whl_fI h.2) h2
omit h in
theorem w1_of {x : Nat} {z : Int} (hx : FI x z) (hz : small z) : W1 x ∧ wh x = z := by
 have e := wh_FI hx
 exact ⟨⟨by rw [e]; exact hx, by rw [e]; exact hz⟩, e⟩
theorem PO.lo {k : Nat} (hk : k < 2) (h0 : 0 < n) : W1 (rlo (fI g) k n) ∧ wh (rlo (fI g) k n) = loZ g k n := by
 refine w1_of (lo_F (whl_fI h.2) hk n (Nat.le_refl _)).1 ?_
 obtain ⟨j, hj, e⟩ := loZ_at (z := g) (k := k) h0
 rw [e]
 exact h.2 _ (by omega)
theorem PO.hi {k : Nat} (hk : k < 2) (h0 : 0 < n) : W1 (rhi (fI g) k n) ∧ wh (rhi (fI g) k n) = hiZ g k n := by
 refine w1_of (hi_F (whl_fI h.2) hk n (Nat.le_refl _)).1 ?_
 obtain ⟨j, hj, e⟩ := hiZ_at (z := g) (k := k) h0
 rw [e]
 exact h.2 _ (by omega)
theorem PO.w4 {cl : Bool} : W1 (rX0 g n cl) ∧ W1 (rX1 g n cl) ∧ W1 (rX2 g n cl) ∧ W1 (rX3 g n cl) := by
 unfold rX0 rX1 rX2 rX3 pick
 split
 · rename_i hb
   have h2 : 2 ≤ n := (of_decide_eq_true hb).1
   exact ⟨(h.lo (by decide) (by omega)).1, (h.lo (by decide) (by omega)).1, (h.hi (by decide) (by omega)).1, (h.hi (by decide) (by omega)).1⟩
 · exact ⟨w1_zero.1, w1_zero.1, w1_zero.1, w1_zero.1⟩
theorem PO.ob {cl : Bool} : (n ≤ 1000000 ∧ SmF (fI g) (2 * n)) ∧ (W1 (rX0 g n cl) ∧ W1 (rX1 g n cl) ∧ W1 (rX2 g n cl) ∧ W1 (rX3 g n cl)) := ⟨⟨h.len, h.smF⟩, h.w4⟩
end
noncomputable def G39T0 : Ctx := ⟨⟨tys, []⟩, [(64, conR optsC), (63, conR shaped30C), (72, conR cornerC), (75, pureCon ptF), (171, conR pcq0C), (168, conR piq0C)]⟩
theorem g39T0 : CtxOk Tryz.prog G39T0 := ⟨⟨tysOk, FlatsOk.nil⟩, GamOk.cons opts (GamOk.cons shaped30 (GamOk.cons corner (GamOk.cons (.pure pt) (GamOk.cons pcq0 (GamOk.cons piq0 GamOk.nil))))), by kernel_rfl⟩
noncomputable def asPt0C : List SV → RdM
 | [.agg [.int .i64 3, .slcc n len, .nils], .agg [.int .i64 0, .slcc m 1, .nils], .int .i64 0, .int .i64 0] => .read n fun o0 => (match intsFrom .i64 o0.c with
   | some (m0, g) => .read m fun o1 => (match intsFrom .i64 o1.c with
   | some (m1, gl) => .ret ⟨[.agg [.int .i64 3, .slcc 0 len, .nils], .agg [.int .i64 0, .slcc 1 1, .nils], .int .i64 0, .int .i64 0], [(0, ⟨false, 23, .ints .i64 m0 g, 0⟩), (1, ⟨false, 23, .ints .i64 m1 gl, 0⟩)], .tup [.bool (vPt g len (gl 0) (gl 1)), .bool (vPt g len (gl 0) (gl 1))], [], [], some (m0 = 2 * len ∧ m1 = 2 ∧ PO g len ∧ small (gl 0) ∧ small (gl 1))⟩
   | none => .fail)
   | none => .fail)
 | _ => .fail
theorem vc_asPt0 (len : Nat)  (g : Nat → Int) (gl : Nat → Int) : runA G39T0 2 [] [] (codeOf Tryz.f39) (init Tryz.f39.ntmps [.agg [.int .i64 3, .slcc 0 len, .nils], .agg [.int .i64 0, .slcc 1 1, .nils], .int .i64 0, .int .i64 0] [(0, ⟨false, 23, .ints .i64 (2 * len) g, 0⟩), (1, ⟨false, 23, .ints .i64 (2) gl, 0⟩)] 2) (endK G39T0.E.T Tryz.f39.results.toList fun S v => postP 2 ⟨[.agg [.int .i64 3, .slcc 0 len, .nils], .agg [.int .i64 0, .slcc 1 1, .nils], .int .i64 0, .int .i64 0], [(0, ⟨false, 23, .ints .i64 (2 * len) g, 0⟩), (1, ⟨false, 23, .ints .i64 (2) gl, 0⟩)], .tup [.bool (vPt g len (gl 0) (gl 1)), .bool (vPt g len (gl 0) (gl 1))], [], [], some (2 * len = 2 * len ∧ 2 = 2 ∧ PO g len ∧ small (gl 0) ∧ small (gl 1))⟩ S v) = (
 True ∧ (2 * len = 2 * len ∧ (0 : Int) = 0 ∧ len ≤ 1000000 ∧ (ppBig len true = true → ppOk (fI g) len)) ∧ (false = true → False) ∧ (false = false → (false = true →
 False) ∧ (false = false → (false = true → False) ∧ (false = false → (2 = 2 ∧ (0 : Int) ≤ 0) ∧ (2 * len = 2 * len ∧ ((len ≤ 1000000 ∧ SmF (fI g) (2 * len)) ∧
 W1 (pick (ppBig len true) (rlo (fI g) 0 len)) ∧ W1 (pick (ppBig len true) (rlo
(fI g) 1 len)) ∧ W1 (pick (ppBig len true) (rhi (fI g) 0 len)) ∧ W1 (pick
(ppBig len true) (rhi (fI g) 1 len))) ∧ W1 (ofI .f64 (crn gl 1 (0 : Int) 0)) ∧ W1 (ofI .f64
(crn gl 1 (0 : Int) 1))) ∧ (2 * len = 2 * len ∧ ((len ≤ 1000000 ∧ SmF (fI g) (2 * len)) ∧ W1 (pick
(ppBig len true) (rlo (fI g) 0 len)) ∧ W1 (pick (ppBig len true) (rlo (fI g) 1 len)) ∧
 W1 (pick (ppBig len true) (rhi (fI g) 0 len)) ∧ W1 (pick (ppBig len true) (rhi
(fI g) 1 len))) ∧ W1 (ofI .f64 (crn gl 1 (0 : Int) 0)) ∧ W1 (ofI .f64 (crn gl 1 (0 : Int) 1))) ∧ true = true
∧ ((rcp (fI g) len (nsg true len (wz (fI g))) (pick (ppBig len true) (rlo (fI
 g) 0 len)) (pick (ppBig len true) (rlo (fI g) 1 len)) (pick (ppBig len true) (rhi (fI g)
0 len)) (pick (ppBig len true) (rhi (fI g) 1 len)) (ofI .f64 (crn gl 1 (0 : Int) 0)) (ofI .f64
(crn gl 1 (0 : Int) 1)) true).1 = vPt g len (gl 0) (gl 1) ∧ (rcp (fI g) len (nsg true len (wz
(fI g))) (pick (ppBig len true) (rlo (fI g) 0 len)) (pick (ppBig len true) (rlo
(fI g) 1 len)) (pick (ppBig len true) (rhi (fI g) 0 len)) (pick (ppBig len true) (rhi
(fI g) 1 len)) (ofI .f64 (crn gl 1 (0 : Int) 0)) (ofI .f64 (crn gl 1 (0 : Int) 1)) true).1 = vPt g len (gl 0) (gl 1) ∧ True) ∧ True)))) := by kernel_rfl
theorem asPt0 : ConOk Tryz.prog 39 (conR asPt0C) := by
 refine con_of_vc g39T0 Tryz.func39 rfl (by kernel_rfl) fun args => ?_
 unfold asPt0C
 split
 · rename_i n len m
   intro o0
   show RdM.All _ (match intsFrom .i64 o0.c with | some (m, g) => _ | none => _) _
   split
   · rename_i m0 g hm0
     intro o1
     show RdM.All _ (match intsFrom .i64 o1.c with | some (m, g) => _ | none => _) _
     split
     · rename_i m1 gl hm1
       intro ho
       replace ho : m0 = 2 * len ∧ m1 = 2 ∧ PO g len ∧ small (gl 0) ∧ small (gl 1) := ho
       obtain ⟨hsz0, hsz1, ho⟩ := ho
       subst hsz0
       subst hsz1
       refine ⟨?_, _, _, (vc_asPt0 len g gl).mpr ?_⟩
       · refine okFlag_mk rfl ⟨?_, ⟨trivial, (contR_ints hm0).1, ⟨trivial, (contR_ints hm1).1, trivial⟩⟩⟩
         simp [eqvRL, eqvR, kEq_self, sgSig, fsts, nth, sameN_self]
       · obtain ⟨h1, h2⟩ := ho
         simp only [true_and, and_true, eq_self, true_implies]
         have c0 : crn gl 1 0 0 = gl 0 := rfl
         have c1 : crn gl 1 0 1 = gl 1 := rfl
         simp only [c0, c1, Bool.false_eq_true, false_implies, true_and]
         exact ⟨⟨h1.len, fun hb => h1.ppOk hb⟩, by decide, ⟨h1.ob, (w1_fI h2.1).1, (w1_fI h2.2).1⟩, ⟨h1.ob, (w1_fI h2.1).1, (w1_fI h2.2).1⟩, rfl, rfl⟩
     · trivial
   · trivial
 · trivial
end Go.Proofs.Tryz.Sx

namespace Go.Proofs.Tryz.Sx
open Go Go.Sx Go.Proofs Go.Fl Go.Geo
end Go.Proofs.Tryz.Sx

namespace Go.Proofs.Tryz.Sx
open Go Go.Sx Go.Proofs Go.Fl Go.Geo
end Go.Proofs.Tryz.Sx

namespace Go.Proofs.Tryz.Sx
open Go Go.Sx Go.Proofs Go.Fl Go.Geo
set_option maxRecDepth 100000
noncomputable def GPA : Ctx := ⟨⟨tys, []⟩, [(39, conR asPt0C)]⟩
theorem gPA : CtxOk Tryz.prog GPA := ⟨⟨tysOk, FlatsOk.nil⟩, GamOk.cons asPt0 GamOk.nil, by kernel_rfl⟩
def polyAwF : PF := fun
 | [] => some (.tt, none)
 | _ => none
theorem vc_polyAw (R : SV → Prop) : runA GPA 0 [] [] (codeOf Tryz.f50) (init Tryz.f50.ntmps [] [] 0) (endK GPA.E.T Tryz.f50.results.toList fun _ v => R v) = (
(8 = 8 ∧ 2 = 2 ∧ PO (fun (i : Nat) => List.getD [(0 : Int), (0 : Int), (2 : Int), (0 : Int), (2 : Int), (2 : Int), (0 : Int), (2 : Int)] i (0 : Int)) 4 ∧ small (1 : Int) ∧
 small (1 : Int)) ∧ (true = true → R (SV.bool true)) ∧ (true = false → R SV.ff)) := by kernel_rfl
theorem polyAw : PureOk Tryz.prog 50 polyAwF := by
 refine pure_of_vc gPA Tryz.func50 rfl (by kernel_rfl) ?_
 intro args v p h hp
 unfold polyAwF at h
 split at h
 · injection h with h; injection h with h1 h2; subst h1; subst h2
   clear hp
   refine ⟨rfl, _, _, (vc_polyAw _).mpr ?_⟩
   have s1 : small 1 := by unfold small; omega
   simp only [eq_self, true_and]
   refine ⟨⟨⟨by decide, fun j hj => ?_⟩, s1, s1⟩, fun _ => by simp [eqv], fun h => nomatch h⟩
   have : j = 0 ∨ j = 1 ∨ j = 2 ∨ j = 3 ∨ j = 4 ∨ j = 5 ∨ j = 6 ∨ j = 7 := by omega
   rcases this with rfl | rfl | rfl | rfl | rfl | rfl | rfl | rfl <;> (unfold small; simp)
 · cases h
set_option maxHeartbeats 4000000
def holU : Cont → Option (Nat × Nm × Nat × Nm × Nat × Nm × Nat × Nm × Nat)
 | .upto k [.slcc q0 l0, .slcc q1 l1, .slcc q2 l2, .slcc q3 l3] => some (k, q0, l0, q1, l1, q2, l2, q3, l3)
 | _ => none
theorem holU_spec {σ : Sig} {c : Cont} {k l0 l1 l2 l3 : Nat} {p0 p1 p2 p3 q0 q1 q2 q3 : Nm} (h : holU c = some (k, q0, l0, q1, l1, q2, l2, q3, l3)) (s0 : sameN (σ p0) q0) (s1 : sameN (σ p1) q1) (s2 : sameN (σ p2) q2) (s3 : sameN (σ p3) q3) :
   contR σ c (.upto k [.slcc p0 l0, .slcc p1 l1, .slcc p2 l2, .slcc p3 l3]) := by
 unfold holU at h
 split at h
 · simp only [Option.some.injEq, Prod.mk.injEq] at h
   obtain ⟨rfl, rfl, rfl, rfl, rfl, rfl, rfl, rfl, rfl⟩ := h
   exact ⟨rfl, by simp [uptoR2, eqvR, s0, s1, s2, s3]⟩
 · cases h
def hab (k l0 l1 l2 l3 : Nat) : Prop := k ≤ 4 ∧ (k ≤ 0 → l0 = 0) ∧ (k ≤ 1 → l1 = 0) ∧ (k ≤ 2 → l2 = 0) ∧ (k ≤ 3 → l3 = 0)
def fitB (l : Nat) : Bool := decide ((l : Int) ≤ 2147483647)
def isPg (n : Int) (l : Nat) (g : Nat → Int) : Bool := decide ((l : Int) ≤ n) && geoAll (2 * l) g
theorem isPg_0 {n : Int} (hn : 0 ≤ n) (g : Nat → Int) : isPg n 0 g = true := by
 unfold isPg geoAll
 simp [hn]
noncomputable def zf3UC : List SV → RdM
 | [.slcc h k1] => .read h fun o0 => (match holU o0.c with
   | some (k, q0, l0, q1, l1, q2, l2, q3, l3) => .read q0 fun o1 => (match intsFrom .i64 o1.c with
   | some (m1, g0) => .read q1 fun o2 => (match intsFrom .i64 o2.c with
   | some (m2, g1) => .read q2 fun o3 => (match intsFrom .i64 o3.c with
   | some (m3, g2) => .read q3 fun o4 => (match intsFrom .i64 o4.c with
   | some (m4, g3) => .ret ⟨[.slcc 0 k], [(0, ⟨false, 26, .upto k [.slcc 1 l0, .slcc 2 l1, .slcc 3 l2, .slcc 4 l3], 0⟩), (1, ⟨false, 28, .ints .i64 m1 g0, 0⟩), (2, ⟨false, 28, .ints .i64 m2 g1, 0⟩), (3, ⟨false, 28, .ints .i64 m3 g2, 0⟩), (4, ⟨false, 28, .ints .i64 m4 g3, 0⟩)], .bool (fitB l0 && fitB l1 && fitB l2 && fitB l3), [], [], some (k = k1 ∧ m1 = 2 * l0 ∧ m2 = 2 * l1 ∧ m3 = 2 * l2 ∧ m4 = 2 * l3 ∧ hab k l0 l1 l2 l3)⟩
   | none => .fail)
   | none => .fail)
   | none => .fail)
   | none => .fail)
   | none => .fail)
 | _ => .fail
theorem vc_zf3U (k l0 l1 l2 l3 : Nat) (_ _ _ _ : Nm)  (g0 : Nat → Int) (g1 : Nat → Int) (g2 : Nat → Int) (g3 : Nat → Int) : runA G0 5 [(4, .unr [⟨Nat, fun _ => ⟨18, [(8, .slcc 0 k), (9, .int .i64 k), (10, .int .i64 0)], [(0, ⟨false, 26, .upto k [.slcc 1 l0, .slcc 2 l1, .slcc 3 l2, .slcc 4 l3], 0⟩), (1, ⟨false, 28, .ints .i64 (2 * l0) g0, 0⟩), (2, ⟨false, 28, .ints .i64 (2 * l1) g1, 0⟩), (3, ⟨false, 28, .ints .i64 (2 * l2) g2, 0⟩), (4, ⟨false, 28, .ints .i64 (2 * l3) g3, 0⟩)], 5⟩, fun _ => 0 ≤ k, fun _ => 0⟩, ⟨Nat, fun _ => ⟨18, [(8, .slcc 0 k), (9, .int .i64 k), (10, .int .i64 1)], [(0, ⟨false, 26, .upto k [.slcc 1 l0, .slcc 2 l1, .slcc 3 l2, .slcc 4 l3], 0⟩), (1, ⟨false, 28, .ints .i64 (2 * l0) g0, 0⟩), (2, ⟨false, 28, .ints .i64 (2 * l1) g1, 0⟩), (3, ⟨false, 28, .ints .i64 (2 * l2) g2, 0⟩), (4, ⟨false, 28, .ints .i64 (2 * l3) g3, 0⟩)], 5⟩, fun _ => 1 ≤ k ∧ fitB l0 = true, fun _ => 0⟩, ⟨Nat, fun _ => ⟨18, [(8, .slcc 0 k), (9, .int .i64 k), (10, .int .i64 2)], [(0, ⟨false, 26, .upto k [.slcc 1 l0, .slcc 2 l1, .slcc 3 l2, .slcc 4 l3], 0⟩), (1, ⟨false, 28, .ints .i64 (2 * l0) g0, 0⟩), (2, ⟨false, 28, .ints .i64 (2 * l1) g1, 0⟩), (3, ⟨false, 28, .ints .i64 (2 * l2) g2, 0⟩), (4, ⟨false, 28, .ints .i64 (2 * l3) g3, 0⟩)], 5⟩, fun _ => 2 ≤ k ∧ fitB l0 = true ∧ fitB l1 = true, fun _ => 0⟩, ⟨Nat, fun _ => ⟨18, [(8, .slcc 0 k), (9, .int .i64 k), (10, .int .i64 3)], [(0, ⟨false, 26, .upto k [.slcc 1 l0, .slcc 2 l1, .slcc 3 l2, .slcc 4 l3], 0⟩), (1, ⟨false, 28, .ints .i64 (2 * l0) g0, 0⟩), (2, ⟨false, 28, .ints .i64 (2 * l1) g1, 0⟩), (3, ⟨false, 28, .ints .i64 (2 * l2) g2, 0⟩), (4, ⟨false, 28, .ints .i64 (2 * l3) g3, 0⟩)], 5⟩, fun _ => 3 ≤ k ∧ fitB l0 = true ∧ fitB l1 = true ∧ fitB l2 = true, fun _ => 0⟩, ⟨Nat, fun _ => ⟨18, [(8, .slcc 0 k), (9, .int .i64 k), (10, .int .i64 4)], [(0, ⟨false, 26, .upto k [.slcc 1 l0, .slcc 2 l1, .slcc 3 l2, .slcc 4 l3], 0⟩), (1, ⟨false, 28, .ints .i64 (2 * l0) g0, 0⟩), (2, ⟨false, 28, .ints .i64 (2 * l1) g1, 0⟩), (3, ⟨false, 28, .ints .i64 (2 * l2) g2, 0⟩), (4, ⟨false, 28, .ints .i64 (2 * l3) g3, 0⟩)], 5⟩, fun _ => 4 ≤ k ∧ fitB l0 = true ∧ fitB l1 = true ∧ fitB l2 = true ∧ fitB l3 = true, fun _ => 0⟩])] [] (codeOf Tryz.f78) (init Tryz.f78.ntmps [.slcc 0 k] [(0, ⟨false, 26, .upto k [.slcc 1 l0, .slcc 2 l1, .slcc 3 l2, .slcc 4 l3], 0⟩), (1, ⟨false, 28, .ints .i64 (2 * l0) g0, 0⟩), (2, ⟨false, 28, .ints .i64 (2 * l1) g1, 0⟩), (3, ⟨false, 28, .ints .i64 (2 * l2) g2, 0⟩), (4, ⟨false, 28, .ints .i64 (2 * l3) g3, 0⟩)] 5) (endK G0.E.T Tryz.f78.results.toList fun S v => postP 5 ⟨[.slcc 0 k], [(0, ⟨false, 26, .upto k [.slcc 1 l0, .slcc 2 l1, .slcc 3 l2, .slcc 4 l3], 0⟩), (1, ⟨false, 28, .ints .i64 (2 * l0) g0, 0⟩), (2, ⟨false, 28, .ints .i64 (2 * l1) g1, 0⟩), (3, ⟨false, 28, .ints .i64 (2 * l2) g2, 0⟩), (4, ⟨false, 28, .ints .i64 (2 * l3) g3, 0⟩)], .bool (fitB l0 && fitB l1 && fitB l2 && fitB l3), [], [], some (k = k ∧ 2 * l0 = 2 * l0 ∧ 2 * l1 = 2 * l1 ∧ 2 * l2 = 2 * l2 ∧ 2 * l3 = 2 * l3 ∧ hab k l0 l1 l2 l3)⟩ S v) = (
(decide (2147483647 < (↑k : Int)) = true → (fitB l0 && fitB l1 && fitB l2 && fitB l3) = false ∧ True) ∧ (decide (2147483647 < (↑k : Int)) = false → (∃ (_ : Nat),
0 ≤ k ∧ ((True ∧ k = k) ∧ (↑k : Int) = (↑k : Int) ∧ (0 : Int) = 0 ∧ True) ∧ True ∧ (k = k ∧ (0 < k → True ∧ l0 = l0) ∧ (1 < k → True ∧ l1 = l1) ∧ (2 < k → True ∧ l2 = l2) ∧ (3 < k → True ∧ l3 = l3) ∧
 True) ∧ True ∧ (2 * l0 ≤ 2 * l0 ∧ ∀ (i : Nat), i < 2 * l0 → g0 i = g0 i) ∧ True ∧ (2 * l1 ≤ 2 * l1 ∧ ∀ (i : Nat), i < 2 * l1 → g1 i = g1 i) ∧ True ∧ (2 * l2 ≤ 2 * l2 ∧ ∀ (i : Nat), i <
2 * l2 → g2 i = g2 i) ∧ True ∧ (2 * l3 ≤ 2 * l3 ∧ ∀ (i : Nat), i < 2 * l3 → g3 i = g3 i) ∧ True) ∧ (∀ (_ : Nat), 0 ≤ k → (decide (0 < (↑k : Int)) = true → (((0 : Int) ≤ 0 ∧ 0 < (↑k :
 Int)) ∧ 1 ≤ k) ∧ 1 ≤ k ∧ (decide (2147483647 < (↑l0 : Int)) = true → (fitB l0 && fitB l1 && fitB l2 && fitB l3) = false ∧ True) ∧ (decide ((2147483647 :
 Int) < (↑l0 : Int)) = false → ∃ (_ : Nat), (1 ≤ k ∧ fitB l0 = true) ∧ ((True ∧ k = k) ∧ (↑k : Int) = (↑k : Int) ∧ (1 : Int) = 1 ∧ True) ∧ True ∧ (k = k ∧ (0 < k → True ∧ l0 = l0) ∧ (1 < k → True ∧ l1
= l1) ∧ (2 < k → True ∧ l2 = l2) ∧ (3 < k → True ∧ l3 = l3) ∧ True) ∧ True ∧ (2 * l0 ≤ 2 * l0 ∧ ∀ (i : Nat), i < 2 * l0 → g0 i = g0 i) ∧ True ∧ (2 * l1 ≤ 2 * l1 ∧ ∀ (i : Nat), i < 2 * l1
→ g1 i = g1 i) ∧ True ∧ (2 * l2 ≤ 2 * l2 ∧ ∀ (i : Nat), i < 2 * l2 → g2 i = g2 i) ∧ True ∧ (2 * l3 ≤ 2 * l3 ∧ ∀ (i : Nat), i < 2 * l3 → g3 i = g3 i) ∧ True)) ∧ (decide (0 < (↑k : Int)) = false →
(fitB l0 && fitB l1 && fitB l2 && fitB l3) = true ∧ True)) ∧ (∀ (_ : Nat), 1 ≤ k ∧ fitB l0 = true → (decide (1 < (↑k : Int)) = true → (((0 :
 Int) ≤ (1 : Int) ∧ 1 < (↑k : Int)) ∧ 1 ≤ k) ∧ 2 ≤ k ∧ (decide (2147483647 < (↑l1 : Int)) = true → (fitB l0 && fitB l1 && fitB l2 && fitB l3) =
 false ∧ True) ∧ (decide (2147483647 < (↑l1 : Int)) = false → ∃ (_ : Nat), (2 ≤ k ∧ fitB l0 = true ∧ fitB l1 = true) ∧ ((True ∧ k = k) ∧ (↑k : Int) = (↑k : Int) ∧ (2 : Int) = 2 ∧ True) ∧ True
∧ (k = k ∧ (0 < k → True ∧ l0 = l0) ∧ (1 < k → True ∧ l1 = l1) ∧ (2 < k → True ∧ l2 = l2) ∧ (3 < k → True ∧ l3 = l3) ∧ True) ∧ True ∧ (2 * l0 ≤ 2 * l0 ∧ ∀ (i : Nat), i < 2 * l0 → g0 i = g0 i) ∧
 True ∧ (2 * l1 ≤ 2 * l1 ∧ ∀ (i : Nat), i < 2 * l1 → g1 i = g1 i) ∧ True ∧ (2 * l2 ≤ 2 * l2 ∧ ∀ (i : Nat), i < 2 * l2 → g2 i = g2 i) ∧ True ∧ (2 * l3 ≤ 2 * l3 ∧ ∀ (i : Nat), i < 2
* l3 → g3 i = g3 i) ∧ True)) ∧ (decide (1 < (↑k : Int)) = false → (fitB l0 && fitB l1 && fitB l2 && fitB l3) = true ∧ True)) ∧ (∀ (_ : Nat), 2 ≤ k ∧
 fitB l0 = true ∧ fitB l1 = true → (decide (2 < (↑k : Int)) = true → (((0 : Int) ≤ 2 ∧ 2 < (↑k : Int)) ∧ 1 ≤ k) ∧ 3 ≤ k ∧ (decide (2147483647 < (↑l2 : Int)) = true →
(fitB l0 && fitB l1 && fitB l2 && fitB l3) = false ∧ True) ∧ (decide (2147483647 < (↑l2 : Int)) = false → ∃ (_ : Nat), (3 ≤ k ∧ fitB l0 = true ∧
 fitB l1 = true ∧ fitB l2 = true) ∧ ((True ∧ k = k) ∧ (↑k : Int) = (↑k : Int) ∧ (3 : Int) = 3 ∧ True) ∧ True ∧ (k = k ∧ (0 < k → True ∧ l0 = l0) ∧ (1 < k → True ∧ l1 = l1) ∧ (2 < k →
 True ∧ l2 = l2) ∧ (3 < k → True ∧ l3 = l3) ∧ True) ∧ True ∧ (2 * l0 ≤ 2 * l0 ∧ ∀ (i : Nat), i < 2 * l0 → g0 i = g0 i) ∧ True ∧ (2 * l1 ≤ 2 * l1 ∧ ∀ (i : Nat), i < 2 * l1 → g1 i = g1 i) ∧ True ∧
(2 * l2 ≤ 2 * l2 ∧ ∀ (i : Nat), i < 2 * l2 → g2 i = g2 i) ∧ True ∧ (2 * l3 ≤ 2 * l3 ∧ ∀ (i : Nat), i < 2 * l3 → g3 i = g3 i) ∧ True)) ∧ (decide (2 < (↑k : Int)) = false → (fitB
 l0 && fitB l1 && fitB l2 && fitB l3) = true ∧ True)) ∧ (∀ (_ : Nat), 3 ≤ k ∧ fitB l0 = true ∧ fitB l1 = true ∧ fitB l2 = true →
(decide (3 < (↑k : Int)) = true → (((0 : Int) ≤ 3 ∧ 3 < (↑k : Int)) ∧ 1 ≤ k) ∧ 4 ≤ k ∧ (decide (2147483647 < (↑l3 : Int)) = true → (fitB l0 && fitB l1 &&
 fitB l2 && fitB l3) = false ∧ True) ∧ (decide (2147483647 < (↑l3 : Int)) = false → ∃ (_ : Nat), (4 ≤ k ∧ fitB l0 = true ∧ fitB l1 = true ∧ fitB
 l2 = true ∧ fitB l3 = true) ∧ ((True ∧ k = k) ∧ (↑k : Int) = (↑k : Int) ∧ (4 : Int) = 4 ∧ True) ∧ True ∧ (k = k ∧ (0 < k → True ∧ l0 = l0) ∧ (1 < k → True ∧ l1 = l1) ∧ (2 < k → True ∧ l2 = l2) ∧ (3 < k → True ∧ l3 = l3) ∧ True) ∧ True ∧ (2 * l0 ≤ 2 * l0 ∧ ∀ (i : Nat), i < 2 * l0 → g0 i = g0 i) ∧ True ∧ (2 * l1 ≤ 2 * l1 ∧ ∀ (i : Nat), i < 2 * l1 → g1 i = g1 i) ∧ True ∧ (2 * l2 ≤ 2 * l2 ∧ ∀ (i : Nat), i < 2 * l2 → g2 i = g2 i) ∧ True ∧ (2 * l3 ≤ 2 * l3 ∧ ∀ (i : Nat), i < 2 * l3 → g3 i = g3 i) ∧ True)) ∧ (decide (3 < (↑k : Int)) = false → (fitB l0 &&
 fitB l1 && fitB l2 && fitB l3) = true ∧ True)) ∧ (∀ (_ : Nat), 4 ≤ k ∧ fitB l0 = true ∧ fitB l1 = true ∧ fitB l2 = true ∧
 fitB l3 = true → (decide (4 < (↑k : Int)) = true → (((0 : Int) ≤ 4 ∧ 4 < (↑k : Int)) ∧ 1 ≤ k) ∧ False) ∧ (decide (4 < (↑k : Int)) = false → (fitB l0 && fitB
 l1 && fitB l2 && fitB l3) = true ∧ True)) ∧ True)) := by kernel_rfl
theorem zf3U : ConOk Tryz.prog 78 (conR zf3UC) := by
 refine con_of_vc g0 Tryz.func78 rfl (by kernel_rfl) fun args => ?_
 unfold zf3UC
 split
 · rename_i h k1
   intro o0
   show RdM.All _ (match holU o0.c with | some (k, q0, l0, q1, l1, q2, l2, q3, l3) => _ | none => _) _
   split
   · rename_i k q0 l0 q1 l1 q2 l2 q3 l3 hm0
     intro o1
     show RdM.All _ (match intsFrom .i64 o1.c with | some (m, g) => _ | none => _) _
     split
     · rename_i m1 g0 hm1
       intro o2
       show RdM.All _ (match intsFrom .i64 o2.c with | some (m, g) => _ | none => _) _
       split
       · rename_i m2 g1 hm2
         intro o3
         show RdM.All _ (match intsFrom .i64 o3.c with | some (m, g) => _ | none => _) _
         split
         · rename_i m3 g2 hm3
           intro o4
           show RdM.All _ (match intsFrom .i64 o4.c with | some (m, g) => _ | none => _) _
           split
           · rename_i m4 g3 hm4
             intro ho
             replace ho : k = k1 ∧ m1 = 2 * l0 ∧ m2 = 2 * l1 ∧ m3 = 2 * l2 ∧ m4 = 2 * l3 ∧ hab k l0 l1 l2 l3 := ho
             obtain ⟨heq0, hsz1, hsz2, hsz3, hsz4, ho⟩ := ho
             subst heq0
             subst hsz1
             subst hsz2
             subst hsz3
             subst hsz4
             refine ⟨?_, _, _, (vc_zf3U k l0 l1 l2 l3 q0 q1 q2 q3 g0 g1 g2 g3).mpr ?_⟩
             · refine okFlag_mk rfl ⟨?_, ⟨trivial, holU_spec hm0 (by simp [sgSig, fsts, nth, sameN_self]) (by simp [sgSig, fsts, nth, sameN_self]) (by simp [sgSig, fsts, nth, sameN_self]) (by simp [sgSig, fsts, nth, sameN_self]), ⟨trivial, (contR_ints hm1).1, ⟨trivial, (contR_ints hm2).1, ⟨trivial, (contR_ints hm3).1, ⟨trivial, (contR_ints hm4).1, trivial⟩⟩⟩⟩⟩⟩
               simp [eqvRL, eqvR, sgSig, fsts, nth, sameN_self]
             · obtain ⟨h4, a0, a1, a2, a3⟩ := ho
               simp [fitB]
               all_goals omega
           · trivial
         · trivial
       · trivial
     · trivial
   · trivial
 · trivial
noncomputable def GzfU : Ctx := ⟨⟨tys, []⟩, [(19, conR isGeoC), (78, conR zf3UC)]⟩
theorem gzfU : CtxOk Tryz.prog GzfU := ⟨⟨tysOk, FlatsOk.nil⟩, GamOk.cons isGeo (GamOk.cons zf3U GamOk.nil), by kernel_rfl⟩
noncomputable def zf2UC : List SV → RdM
 | [.agg [.slcc n len, .slcc h k1]] => .read n fun o0 => (match intsFrom .i64 o0.c with
   | some (m0, g) => .read h fun o1 => (match holU o1.c with
   | some (k, q0, l0, q1, l1, q2, l2, q3, l3) => .read q0 fun o2 => (match intsFrom .i64 o2.c with
   | some (m2, g0) => .read q1 fun o3 => (match intsFrom .i64 o3.c with
   | some (m3, g1) => .read q2 fun o4 => (match intsFrom .i64 o4.c with
   | some (m4, g2) => .read q3 fun o5 => (match intsFrom .i64 o5.c with
   | some (m5, g3) => .ret ⟨[.agg [.slcc 0 len, .slcc 1 k]], [(0, ⟨false, 28, .ints .i64 m0 g, 0⟩), (1, ⟨false, 26, .upto k [.slcc 2 l0, .slcc 3 l1, .slcc 4 l2, .slcc 5 l3], 0⟩), (2, ⟨false, 28, .ints .i64 m2 g0, 0⟩), (3, ⟨false, 28, .ints .i64 m3 g1, 0⟩), (4, ⟨false, 28, .ints .i64 m4 g2, 0⟩), (5, ⟨false, 28, .ints .i64 m5 g3, 0⟩)], .bool (fitB len && fitB l0 && fitB l1 && fitB l2 && fitB l3), [], [], some (k = k1 ∧ m0 = 2 * len ∧ m2 = 2 * l0 ∧ m3 = 2 * l1 ∧ m4 = 2 * l2 ∧ m5 = 2 * l3 ∧ hab k l0 l1 l2 l3)⟩
   | none => .fail)
   | none => .fail)
   | none => .fail)
   | none => .fail)
   | none => .fail)
   | none => .fail)
 | _ => .fail
theorem vc_zf2U (len : Nat) (k l0 l1 l2 l3 : Nat) (_ _ _ _ : Nm)  (g : Nat → Int) (g0 : Nat → Int) (g1 : Nat → Int) (g2 : Nat → Int) (g3 : Nat → Int) : runA GzfU 6 [] [] (codeOf Tryz.f45) (init Tryz.f45.ntmps [.agg [.slcc 0 len, .slcc 1 k]] [(0, ⟨false, 28, .ints .i64 (2 * len) g, 0⟩), (1, ⟨false, 26, .upto k [.slcc 2 l0, .slcc 3 l1, .slcc 4 l2, .slcc 5 l3], 0⟩), (2, ⟨false, 28, .ints .i64 (2 * l0) g0, 0⟩), (3, ⟨false, 28, .ints .i64 (2 * l1) g1, 0⟩), (4, ⟨false, 28, .ints .i64 (2 * l2) g2, 0⟩), (5, ⟨false, 28, .ints .i64 (2 * l3) g3, 0⟩)] 6) (endK GzfU.E.T Tryz.f45.results.toList fun S v => postP 6 ⟨[.agg [.slcc 0 len, .slcc 1 k]], [(0, ⟨false, 28, .ints .i64 (2 * len) g, 0⟩), (1, ⟨false, 26, .upto k [.slcc 2 l0, .slcc 3 l1, .slcc 4 l2, .slcc 5 l3], 0⟩), (2, ⟨false, 28, .ints .i64 (2 * l0) g0, 0⟩), (3, ⟨false, 28, .ints .i64 (2 * l1) g1, 0⟩), (4, ⟨false, 28, .ints .i64 (2 * l2) g2, 0⟩), (5, ⟨false, 28, .ints .i64 (2 * l3) g3, 0⟩)], .bool (fitB len && fitB l0 && fitB l1 && fitB l2 && fitB l3), [], [], some (k = k ∧ 2 * len = 2 * len ∧ 2 * l0 = 2 * l0 ∧ 2 * l1 = 2 * l1 ∧ 2 * l2 = 2 * l2 ∧ 2 * l3 = 2 * l3 ∧ hab k l0 l1 l2 l3)⟩ S v) = (
(decide (2147483647 < (↑len : Int)) = true → (fitB len && fitB l0 && fitB l1 && fitB l2 && fitB l3) = false ∧ True) ∧ (decide ((2147483647 : Int) <
(↑len : Int)) = false → (k = k ∧ 2 * l0 = 2 * l0 ∧ 2 * l1 = 2 * l1 ∧ 2 * l2 = 2 * l2 ∧ 2 * l3 = 2 * l3 ∧ hab k l0 l1 l2 l3) ∧ ((!(fitB l0 &&
 fitB l1 && fitB l2 && fitB l3)) = true → (fitB len && fitB l0 && fitB l1 && fitB l2 && fitB l3) = false ∧
 True) ∧ ((!(fitB l0 && fitB l1 && fitB l2 && fitB l3)) = false → (fitB len && fitB l0 && fitB l1 && fitB
 l2 && fitB l3) = true ∧ True))) := by kernel_rfl
theorem zf2U : ConOk Tryz.prog 45 (conR zf2UC) := by
 refine con_of_vc gzfU Tryz.func45 rfl (by kernel_rfl) fun args => ?_
 unfold zf2UC
 split
 · rename_i n len h k1
   intro o0
   show RdM.All _ (match intsFrom .i64 o0.c with | some (m, g) => _ | none => _) _
   split
   · rename_i m0 g hm0
     intro o1
     show RdM.All _ (match holU o1.c with | some (k, q0, l0, q1, l1, q2, l2, q3, l3) => _ | none => _) _
     split
     · rename_i k q0 l0 q1 l1 q2 l2 q3 l3 hm1
       intro o2
       show RdM.All _ (match intsFrom .i64 o2.c with | some (m, g) => _ | none => _) _
       split
       · rename_i m2 g0 hm2
         intro o3
         show RdM.All _ (match intsFrom .i64 o3.c with | some (m, g) => _ | none => _) _
         split
         · rename_i m3 g1 hm3
           intro o4
           show RdM.All _ (match intsFrom .i64 o4.c with | some (m, g) => _ | none => _) _
           split
           · rename_i m4 g2 hm4
             intro o5
             show RdM.All _ (match intsFrom .i64 o5.c with | some (m, g) => _ | none => _) _
             split
             · rename_i m5 g3 hm5
               intro ho
               replace ho : k = k1 ∧ m0 = 2 * len ∧ m2 = 2 * l0 ∧ m3 = 2 * l1 ∧ m4 = 2 * l2 ∧ m5 = 2 * l3 ∧ hab k l0 l1 l2 l3 := ho
               obtain ⟨heq0, hsz0, hsz2, hsz3, hsz4, hsz5, ho⟩ := ho
               subst heq0
               subst hsz0
               subst hsz2
               subst hsz3
               subst hsz4
               subst hsz5
               refine ⟨?_, _, _, (vc_zf2U len k l0 l1 l2 l3 q0 q1 q2 q3 g g0 g1 g2 g3).mpr ?_⟩
               · refine okFlag_mk rfl ⟨?_, ⟨trivial, (contR_ints hm0).1, ⟨trivial, holU_spec hm1 (by simp [sgSig, fsts, nth, sameN_self]) (by simp [sgSig, fsts, nth, sameN_self]) (by simp [sgSig, fsts, nth, sameN_self]) (by simp [sgSig, fsts, nth, sameN_self]), ⟨trivial, (contR_ints hm2).1, ⟨trivial, (contR_ints hm3).1, ⟨trivial, (contR_ints hm4).1, ⟨trivial, (contR_ints hm5).1, trivial⟩⟩⟩⟩⟩⟩⟩
                 simp [eqvRL, eqvR, sgSig, fsts, nth, sameN_self]
               · generalize hB : (fitB l0 && fitB l1 && fitB l2 && fitB l3) = B
                 have e : (fitB len && fitB l0 && fitB l1 && fitB l2 && fitB l3) = (fitB len && B) := by rw [← hB]; simp [Bool.and_assoc]
                 rw [e]
                 cases B <;> simp [fitB, ho]
                 all_goals omega
             · trivial
           · trivial
         · trivial
       · trivial
     · trivial
   · trivial
 · trivial
noncomputable def isPoUC : List SV → RdM
 | [.agg [.slcc n len, .slcc h k1]] => .read n fun o0 => (match intsFrom .i64 o0.c with
   | some (m0, g) => .read h fun o1 => (match holU o1.c with
   | some (k, q0, l0, q1, l1, q2, l2, q3, l3) => .read q0 fun o2 => (match intsFrom .i64 o2.c with
   | some (m2, g0) => .read q1 fun o3 => (match intsFrom .i64 o3.c with
   | some (m3, g1) => .read q2 fun o4 => (match intsFrom .i64 o4.c with
   | some (m4, g2) => .read q3 fun o5 => (match intsFrom .i64 o5.c with
   | some (m5, g3) => .ret ⟨[.agg [.slcc 0 len, .slcc 1 k]], [(0, ⟨false, 28, .ints .i64 m0 g, 0⟩), (1, ⟨false, 26, .upto k [.slcc 2 l0, .slcc 3 l1, .slcc 4 l2, .slcc 5 l3], 0⟩), (2, ⟨false, 28, .ints .i64 m2 g0, 0⟩), (3, ⟨false, 28, .ints .i64 m3 g1, 0⟩), (4, ⟨false, 28, .ints .i64 m4 g2, 0⟩), (5, ⟨false, 28, .ints .i64 m5 g3, 0⟩)], .bool (isPg 40 len g && isPg 20 l0 g0 && isPg 20 l1 g1 && isPg 20 l2 g2 && isPg 20 l3 g3), [], [], some (k = k1 ∧ m0 = 2 * len ∧ m2 = 2 * l0 ∧ m3 = 2 * l1 ∧ m4 = 2 * l2 ∧ m5 = 2 * l3 ∧ hab k l0 l1 l2 l3)⟩
   | none => .fail)
   | none => .fail)
   | none => .fail)
   | none => .fail)
   | none => .fail)
   | none => .fail)
 | _ => .fail
theorem vc_isPoU (len : Nat) (k l0 l1 l2 l3 : Nat) (_ _ _ _ : Nm)  (g : Nat → Int) (g0 : Nat → Int) (g1 : Nat → Int) (g2 : Nat → Int) (g3 : Nat → Int) : runA GzfU 6 [(4, .unr [⟨Nat, fun _ => ⟨37, [(22, .slcc 1 k), (23, .int .i64 k), (24, .int .i64 0)], [(0, ⟨false, 28, .ints .i64 (2 * len) g, 0⟩), (1, ⟨false, 26, .upto k [.slcc 2 l0, .slcc 3 l1, .slcc 4 l2, .slcc 5 l3], 0⟩), (2, ⟨false, 28, .ints .i64 (2 * l0) g0, 0⟩), (3, ⟨false, 28, .ints .i64 (2 * l1) g1, 0⟩), (4, ⟨false, 28, .ints .i64 (2 * l2) g2, 0⟩), (5, ⟨false, 28, .ints .i64 (2 * l3) g3, 0⟩)], 6⟩, fun _ => 0 ≤ k ∧ isPg 40 len g = true, fun _ => 0⟩, ⟨Nat, fun _ => ⟨37, [(22, .slcc 1 k), (23, .int .i64 k), (24, .int .i64 1)], [(0, ⟨false, 28, .ints .i64 (2 * len) g, 0⟩), (1, ⟨false, 26, .upto k [.slcc 2 l0, .slcc 3 l1, .slcc 4 l2, .slcc 5 l3], 0⟩), (2, ⟨false, 28, .ints .i64 (2 * l0) g0, 0⟩), (3, ⟨false, 28, .ints .i64 (2 * l1) g1, 0⟩), (4, ⟨false, 28, .ints .i64 (2 * l2) g2, 0⟩), (5, ⟨false, 28, .ints .i64 (2 * l3) g3, 0⟩)], 6⟩, fun _ => 1 ≤ k ∧ isPg 40 len g = true ∧ isPg 20 l0 g0 = true, fun _ => 0⟩, ⟨Nat, fun _ => ⟨37, [(22, .slcc 1 k), (23, .int .i64 k), (24, .int .i64 2)], [(0, ⟨false, 28, .ints .i64 (2 * len) g, 0⟩), (1, ⟨false, 26, .upto k [.slcc 2 l0, .slcc 3 l1, .slcc 4 l2, .slcc 5 l3], 0⟩), (2, ⟨false, 28, .ints .i64 (2 * l0) g0, 0⟩), (3, ⟨false, 28, .ints .i64 (2 * l1) g1, 0⟩), (4, ⟨false, 28, .ints .i64 (2 * l2) g2, 0⟩), (5, ⟨false, 28, .ints .i64 (2 * l3) g3, 0⟩)], 6⟩, fun _ => 2 ≤ k ∧ isPg 40 len g = true ∧ isPg 20 l0 g0 = true ∧ isPg 20 l1 g1 = true, fun _ => 0⟩, ⟨Nat, fun _ => ⟨37, [(22, .slcc 1 k), (23, .int .i64 k), (24, .int .i64 3)], [(0, ⟨false, 28, .ints .i64 (2 * len) g, 0⟩), (1, ⟨false, 26, .upto k [.slcc 2 l0, .slcc 3 l1, .slcc 4 l2, .slcc 5 l3], 0⟩), (2, ⟨false, 28, .ints .i64 (2 * l0) g0, 0⟩), (3, ⟨false, 28, .ints .i64 (2 * l1) g1, 0⟩), (4, ⟨false, 28, .ints .i64 (2 * l2) g2, 0⟩), (5, ⟨false, 28, .ints .i64 (2 * l3) g3, 0⟩)], 6⟩, fun _ => 3 ≤ k ∧ isPg 40 len g = true ∧ isPg 20 l0 g0 = true ∧ isPg 20 l1 g1 = true ∧ isPg 20 l2 g2 = true, fun _ => 0⟩, ⟨Nat, fun _ => ⟨37, [(22, .slcc 1 k), (23, .int .i64 k), (24, .int .i64 4)], [(0, ⟨false, 28, .ints .i64 (2 * len) g, 0⟩), (1, ⟨false, 26, .upto k [.slcc 2 l0, .slcc 3 l1, .slcc 4 l2, .slcc 5 l3], 0⟩), (2, ⟨false, 28, .ints .i64 (2 * l0) g0, 0⟩), (3, ⟨false, 28, .ints .i64 (2 * l1) g1, 0⟩), (4, ⟨false, 28, .ints .i64 (2 * l2) g2, 0⟩), (5, ⟨false, 28, .ints .i64 (2 * l3) g3, 0⟩)], 6⟩, fun _ => 4 ≤ k ∧ isPg 40 len g = true ∧ isPg 20 l0 g0 = true ∧ isPg 20 l1 g1 = true ∧ isPg 20 l2 g2 = true ∧ isPg 20 l3 g3 = true, fun _ => 0⟩])] [] (codeOf Tryz.f46) (init Tryz.f46.ntmps [.agg [.slcc 0 len, .slcc 1 k]] [(0, ⟨false, 28, .ints .i64 (2 * len) g, 0⟩), (1, ⟨false, 26, .upto k [.slcc 2 l0, .slcc 3 l1, .slcc 4 l2, .slcc 5 l3], 0⟩), (2, ⟨false, 28, .ints .i64 (2 * l0) g0, 0⟩), (3, ⟨false, 28, .ints .i64 (2 * l1) g1, 0⟩), (4, ⟨false, 28, .ints .i64 (2 * l2) g2, 0⟩), (5, ⟨false, 28, .ints .i64 (2 * l3) g3, 0⟩)] 6) (endK GzfU.E.T Tryz.f46.results.toList fun S v => postP 6 ⟨[.agg [.slcc 0 len, .slcc 1 k]], [(0, ⟨false, 28, .ints .i64 (2 * len) g, 0⟩), (1, ⟨false, 26, .upto k [.slcc 2 l0, .slcc 3 l1, .slcc 4 l2, .slcc 5 l3], 0⟩), (2, ⟨false, 28, .ints .i64 (2 * l0) g0, 0⟩), (3, ⟨false, 28, .ints .i64 (2 * l1) g1, 0⟩), (4, ⟨false, 28, .ints .i64 (2 * l2) g2, 0⟩), (5, ⟨false, 28, .ints .i64 (2 * l3) g3, 0⟩)], .bool (isPg 40 len g && isPg 20 l0 g0 && isPg 20 l1 g1 && isPg 20 l2 g2 && isPg 20 l3 g3), [], [], some (k = k ∧ 2 * len = 2 * len ∧ 2 * l0 = 2 * l0 ∧ 2 * l1 = 2 * l1 ∧ 2 * l2 = 2 * l2 ∧ 2 * l3 = 2 * l3 ∧ hab k l0 l1 l2 l3)⟩ S v) = (
(decide (40 < (↑len : Int)) = true → (isPg (40 : Int) len g && isPg (20 : Int) l0 g0 && isPg (20 : Int) l1 g1 && isPg (20 : Int) l2 g2 && isPg (20 :
 Int) l3 g3) = false ∧ True) ∧ (decide (40 < (↑len : Int)) = false → (decide (4 < (↑k : Int)) = true → (isPg (40 : Int) len g && isPg (20 : Int) l0 g0 && isPg (20 : Int) l1 g1 &&
 isPg (20 : Int) l2 g2 && isPg (20 : Int) l3 g3) = false ∧ True) ∧ (decide (4 < (↑k : Int)) = false → (2 * len = 2 * len ∧ len ≤ 1000000) ∧ ((!geoAll (2 *
 len) g) = true → (isPg (40 : Int) len g && isPg (20 : Int) l0 g0 && isPg (20 : Int) l1 g1 && isPg (20 : Int) l2 g2 && isPg (20 : Int) l3 g3) = false ∧ True) ∧
((!geoAll (2 * len) g) = false → (∃ (_ : Nat), (0 ≤ k ∧ isPg (40 : Int) len g = true) ∧ ((True ∧ k = k) ∧ (↑k : Int) = (↑k : Int) ∧ (0 : Int) = 0 ∧ True) ∧ True ∧ (2 * len ≤ 2 * len ∧ ∀ (i : Nat), i < 2 * len → g i = g i) ∧ True ∧ (k = k ∧ (0 < k → True ∧ l0 = l0) ∧ (1 < k → True ∧ l1 = l1) ∧ (2 < k → True ∧ l2 = l2) ∧ (3 < k → True ∧ l3 = l3) ∧ True) ∧ True ∧ (2 * l0 ≤
2 * l0 ∧ ∀ (i : Nat), i < 2 * l0 → g0 i = g0 i) ∧ True ∧ (2 * l1 ≤ 2 * l1 ∧ ∀ (i : Nat), i < 2 * l1 → g1 i = g1 i) ∧ True ∧ (2 * l2 ≤ 2 * l2 ∧ ∀ (i : Nat), i < 2 * l2 → g2 i = g2 i) ∧
 True ∧ (2 * l3 ≤ 2 * l3 ∧ ∀ (i : Nat), i < 2 * l3 → g3 i = g3 i) ∧ True) ∧ (∀ (_ : Nat), 0 ≤ k ∧ isPg (40 : Int) len g = true → (decide (0 < (↑k : Int)) = true → (((0 : Int) ≤ 0 ∧ (0 :
 Int) < (↑k : Int)) ∧ 1 ≤ k) ∧ 1 ≤ k ∧ (decide (20 < (↑l0 : Int)) = true → (isPg (40 : Int) len g && isPg (20 : Int) l0 g0 && isPg (20 : Int) l1 g1 && isPg
(20 : Int) l2 g2 && isPg (20 : Int) l3 g3) = false ∧ True) ∧ (decide (20 < (↑l0 : Int)) = false → (2 * l0 = 2 * l0 ∧ l0 ≤ 1000000) ∧ ((!geoAll (2 * l0) g0) = true →
(isPg (40 : Int) len g && isPg (20 : Int) l0 g0 && isPg (20 : Int) l1 g1 && isPg (20 : Int) l2 g2 && isPg (20 : Int) l3 g3) = false ∧ True) ∧
((!geoAll (2 * l0) g0) = false → ∃ (_ : Nat), (1 ≤ k ∧ isPg (40 : Int) len g = true ∧ isPg (20 : Int) l0 g0 = true) ∧ ((True ∧ k = k) ∧ (↑k : Int) = (↑k : Int) ∧ (1 : Int) = (1 :
 Int) ∧ True) ∧ True ∧ (2 * len ≤ 2 * len ∧ ∀ (i : Nat), i < 2 * len → g i = g i) ∧ True ∧ (k = k ∧ (0 < k → True ∧ l0 = l0) ∧ (1 < k → True ∧ l1 = l1) ∧ (2 < k → True ∧ l2 = l2) ∧ (3 < k → True
∧ l3 = l3) ∧ True) ∧ True ∧ (2 * l0 ≤ 2 * l0 ∧ ∀ (i : Nat), i < 2 * l0 → g0 i = g0 i) ∧ True ∧ (2 * l1 ≤ 2 * l1 ∧ ∀ (i : Nat), i < 2 * l1 → g1 i = g1 i) ∧ True ∧ (2 * l2 ≤ 2 * l2 ∧ ∀ (i
: Nat), i < 2 * l2 → g2 i = g2 i) ∧ True ∧ (2 * l3 ≤ 2 * l3 ∧ ∀ (i : Nat), i < 2 * l3 → g3 i = g3 i) ∧ True))) ∧ (decide (0 < (↑k : Int)) = false → (isPg (40 : Int) len g &&
 isPg (20 : Int) l0 g0 && isPg (20 : Int) l1 g1 && isPg (20 : Int) l2 g2 && isPg (20 : Int) l3 g3) = true ∧ True)) ∧ (∀ (_ : Nat), 1 ≤ k ∧ isPg (40 :
 Int) len g = true ∧ isPg (20 : Int) l0 g0 = true → (decide (1 < (↑k : Int)) = true → (((0 : Int) ≤ 1 ∧ 1 < (↑k : Int)) ∧ 1 ≤ k) ∧ 2 ≤ k ∧ (decide (20 < (↑l1 : Int)) = true →
(isPg (40 : Int) len g && isPg (20 : Int) l0 g0 && isPg (20 : Int) l1 g1 && isPg (20 : Int) l2 g2 && isPg (20 : Int) l3 g3) = false ∧ True) ∧ (decide ((20 :
 Int) < (↑l1 : Int)) = false → (2 * l1 = 2 * l1 ∧ l1 ≤ 1000000) ∧ ((!geoAll (2 * l1) g1) = true → (isPg (40 : Int) len g && isPg (20 : Int) l0 g0 &&
 isPg (20 : Int) l1 g1 && isPg (20 : Int) l2 g2 && isPg (20 : Int) l3 g3) = false ∧ True) ∧ ((!geoAll (2 * l1) g1) = false → ∃ (_ : Nat), (2 ≤ k ∧
 isPg (40 : Int) len g = true ∧ isPg (20 : Int) l0 g0 = true ∧ isPg (20 : Int) l1 g1 = true) ∧ ((True ∧ k = k) ∧ (↑k : Int) = (↑k : Int) ∧ (2 : Int) = 2 ∧ True) ∧ True ∧ (2 * len ≤
2 * len ∧ ∀ (i : Nat), i < 2 * len → g i = g i) ∧ True ∧ (k = k ∧ (0 < k → True ∧ l0 = l0) ∧ (1 < k → True ∧ l1 = l1) ∧ (2 < k → True ∧ l2 = l2) ∧ (3 < k → True ∧ l3 = l3) ∧ True) ∧ True ∧ (2 *
 l0 ≤ 2 * l0 ∧ ∀ (i : Nat), i < 2 * l0 → g0 i = g0 i) ∧ True ∧ (2 * l1 ≤ 2 * l1 ∧ ∀ (i : Nat), i < 2 * l1 → g1 i = g1 i) ∧ True ∧ (2 * l2 ≤ 2 * l2 ∧ ∀ (i : Nat), i < 2 * l2 → g2 i = g2 i)
∧ True ∧ (2 * l3 ≤ 2 * l3 ∧ ∀ (i : Nat), i < 2 * l3 → g3 i = g3 i) ∧ True))) ∧ (decide (1 < (↑k : Int)) = false → (isPg (40 : Int) len g && isPg (20 : Int) l0 g0 &&
 isPg (20 : Int) l1 g1 && isPg (20 : Int) l2 g2 && isPg (20 : Int) l3 g3) = true ∧ True)) ∧ (∀ (_ : Nat), 2 ≤ k ∧ isPg (40 : Int) len g = true ∧ isPg (20
: Int) l0 g0 = true ∧ isPg (20 : Int) l1 g1 = true → (decide (2 < (↑k : Int)) = true → (((0 : Int) ≤ 2 ∧ 2 < (↑k : Int)) ∧ 1 ≤ k) ∧ 3 ≤ k ∧ (decide (20 < (↑l2 : Int)) = true →
(isPg (40 : Int) len g && isPg (20 : Int) l0 g0 && isPg (20 : Int) l1 g1 && isPg (20 : Int) l2 g2 && isPg (20 : Int) l3 g3) = false ∧ True) ∧ (decide ((20 :
 Int) < (↑l2 : Int)) = false → (2 * l2 = 2 * l2 ∧ l2 ≤ 1000000) ∧ ((!geoAll (2 * l2) g2) = true → (isPg (40 : Int) len g && isPg (20 : Int) l0 g0 &&
 isPg (20 : Int) l1 g1 && isPg (20 : Int) l2 g2 && isPg (20 : Int) l3 g3) = false ∧ True) ∧ ((!geoAll (2 * l2) g2) = false → ∃ (_ : Nat), (3 ≤ k ∧
 isPg (40 : Int) len g = true ∧ isPg (20 : Int) l0 g0 = true ∧ isPg (20 : Int) l1 g1 = true ∧ isPg (20 : Int) l2 g2 = true) ∧ ((True ∧ k = k) ∧ (↑k : Int) = (↑k : Int) ∧ (3 : Int)
= (3 : Int) ∧ True) ∧ True ∧ (2 * len ≤ 2 * len ∧ ∀ (i : Nat), i < 2 * len → g i = g i) ∧ True ∧ (k = k ∧ (0 < k → True ∧ l0 = l0) ∧ (1 < k → True ∧ l1 = l1) ∧ (2 < k → True ∧ l2 = l2) ∧ (3 < k
→ True ∧ l3 = l3) ∧ True) ∧ True ∧ (2 * l0 ≤ 2 * l0 ∧ ∀ (i : Nat), i < 2 * l0 → g0 i = g0 i) ∧ True ∧ (2 * l1 ≤ 2 * l1 ∧ ∀ (i : Nat), i < 2 * l1 → g1 i = g1 i) ∧ True ∧ (2 * l2 ≤ 2 * l2
∧ ∀ (i : Nat), i < 2 * l2 → g2 i = g2 i) ∧ True ∧ (2 * l3 ≤ 2 * l3 ∧ ∀ (i : Nat), i < 2 * l3 → g3 i = g3 i) ∧ True))) ∧ (decide (2 < (↑k : Int)) = false → (isPg (40 : Int) len g &&
 isPg (20 : Int) l0 g0 && isPg (20 : Int) l1 g1 && isPg (20 : Int) l2 g2 && isPg (20 : Int) l3 g3) = true ∧ True)) ∧ (∀ (_ : Nat), 3 ≤ k ∧ isPg (40 :
 Int) len g = true ∧ isPg (20 : Int) l0 g0 = true ∧ isPg (20 : Int) l1 g1 = true ∧ isPg (20 : Int) l2 g2 = true → (decide (3 < (↑k : Int)) = true → (((0 : Int) ≤ 3 ∧ 3 < (↑k
: Int)) ∧ 1 ≤ k) ∧ 4 ≤ k ∧ (decide (20 < (↑l3 : Int)) = true → (isPg (40 : Int) len g && isPg (20 : Int) l0 g0 && isPg (20 : Int) l1 g1 && isPg (20 : Int)
 l2 g2 && isPg (20 : Int) l3 g3) = false ∧ True) ∧ (decide (20 < (↑l3 : Int)) = false → (2 * l3 = 2 * l3 ∧ l3 ≤ 1000000) ∧ ((!geoAll (2 * l3) g3) = true →
(isPg (40 : Int) len g && isPg (20 : Int) l0 g0 && isPg (20 : Int) l1 g1 && isPg (20 : Int) l2 g2 && isPg (20 : Int) l3 g3) = false ∧ True) ∧
((!geoAll (2 * l3) g3) = false → ∃ (_ : Nat), (4 ≤ k ∧ isPg (40 : Int) len g = true ∧ isPg (20 : Int) l0 g0 = true ∧ isPg (20 : Int) l1 g1 = true ∧
 isPg (20 : Int) l2 g2 = true ∧ isPg (20 : Int) l3 g3 = true) ∧ ((True ∧ k = k) ∧ (↑k : Int) = (↑k : Int) ∧ (4 : Int) = 4 ∧ True) ∧ True ∧ (2 * len ≤ 2 * len ∧ ∀ (i : Nat), i < 2 *
 len → g i = g i) ∧ True ∧ (k = k ∧ (0 < k → True ∧ l0 = l0) ∧ (1 < k → True ∧ l1 = l1) ∧ (2 < k → True ∧ l2 = l2) ∧ (3 < k → True ∧ l3 = l3) ∧ True) ∧ True ∧ (2 * l0 ≤ 2 * l0 ∧ ∀ (i : Nat), i < 2 * l0 → g0 i = g0 i) ∧ True ∧ (2 * l1 ≤ 2 * l1 ∧ ∀ (i : Nat), i < 2 * l1 → g1 i = g1 i) ∧ True ∧ (2 * l2 ≤ 2 * l2 ∧ ∀ (i : Nat), i < 2 * l2 → g2 i = g2 i) ∧ True ∧ (2 * l3 ≤ 2 * l3 ∧
∀ (i : Nat), i < 2 * l3 → g3 i = g3 i) ∧ True))) ∧ (decide (3 < (↑k : Int)) = false → (isPg (40 : Int) len g && isPg (20 : Int) l0 g0 && isPg (20 : Int) l1 g1 &&
 isPg (20 : Int) l2 g2 && isPg (20 : Int) l3 g3) = true ∧ True)) ∧ (∀ (_ : Nat), 4 ≤ k ∧ isPg (40 : Int) len g = true ∧ isPg (20 : Int) l0 g0 = true ∧
 isPg (20 : Int) l1 g1 = true ∧ isPg (20 : Int) l2 g2 = true ∧ isPg (20 : Int) l3 g3 = true → (decide (4 < (↑k : Int)) = true → (((0 : Int) ≤ 4 ∧ 4 < (↑k : Int)) ∧ 1
≤ k) ∧ False) ∧ (decide (4 < (↑k : Int)) = false → (isPg (40 : Int) len g && isPg (20 : Int) l0 g0 && isPg (20 : Int) l1 g1 && isPg (20 : Int) l2 g2 &&
 isPg (20 : Int) l3 g3) = true ∧ True)) ∧ True)))) := by kernel_rfl
theorem isPoU : ConOk Tryz.prog 46 (conR isPoUC) := by
 refine con_of_vc gzfU Tryz.func46 rfl (by kernel_rfl) fun args => ?_
 unfold isPoUC
 split
 · rename_i n len h k1
   intro o0
   show RdM.All _ (match intsFrom .i64 o0.c with | some (m, g) => _ | none => _) _
   split
   · rename_i m0 g hm0
     intro o1
     show RdM.All _ (match holU o1.c with | some (k, q0, l0, q1, l1, q2, l2, q3, l3) => _ | none => _) _
     split
     · rename_i k q0 l0 q1 l1 q2 l2 q3 l3 hm1
       intro o2
       show RdM.All _ (match intsFrom .i64 o2.c with | some (m, g) => _ | none => _) _
       split
       · rename_i m2 g0 hm2
         intro o3
         show RdM.All _ (match intsFrom .i64 o3.c with | some (m, g) => _ | none => _) _
         split
         · rename_i m3 g1 hm3
           intro o4
           show RdM.All _ (match intsFrom .i64 o4.c with | some (m, g) => _ | none => _) _
           split
           · rename_i m4 g2 hm4
             intro o5
             show RdM.All _ (match intsFrom .i64 o5.c with | some (m, g) => _ | none => _) _
             split
             · rename_i m5 g3 hm5
               intro ho
               replace ho : k = k1 ∧ m0 = 2 * len ∧ m2 = 2 * l0 ∧ m3 = 2 * l1 ∧ m4 = 2 * l2 ∧ m5 = 2 * l3 ∧ hab k l0 l1 l2 l3 := ho
               obtain ⟨heq0, hsz0, hsz2, hsz3, hsz4, hsz5, ho⟩ := ho
               subst heq0
               subst hsz0
               subst hsz2
               subst hsz3
               subst hsz4
               subst hsz5
               refine ⟨?_, _, _, (vc_isPoU len k l0 l1 l2 l3 q0 q1 q2 q3 g g0 g1 g2 g3).mpr ?_⟩
               · refine okFlag_mk rfl ⟨?_, ⟨trivial, (contR_ints hm0).1, ⟨trivial, holU_spec hm1 (by simp [sgSig, fsts, nth, sameN_self]) (by simp [sgSig, fsts, nth, sameN_self]) (by simp [sgSig, fsts, nth, sameN_self]) (by simp [sgSig, fsts, nth, sameN_self]), ⟨trivial, (contR_ints hm2).1, ⟨trivial, (contR_ints hm3).1, ⟨trivial, (contR_ints hm4).1, ⟨trivial, (contR_ints hm5).1, trivial⟩⟩⟩⟩⟩⟩⟩
                 simp [eqvRL, eqvR, sgSig, fsts, nth, sameN_self]
               · obtain ⟨h4, a0, a1, a2, a3⟩ := ho
                 have b0 : k ≤ 0 → isPg 20 l0 g0 = true := fun h => by rw [a0 h]; exact isPg_0 (by decide) g0
                 have b1 : k ≤ 1 → isPg 20 l1 g1 = true := fun h => by rw [a1 h]; exact isPg_0 (by decide) g1
                 have b2 : k ≤ 2 → isPg 20 l2 g2 = true := fun h => by rw [a2 h]; exact isPg_0 (by decide) g2
                 have b3 : k ≤ 3 → isPg 20 l3 g3 = true := fun h => by rw [a3 h]; exact isPg_0 (by decide) g3
                 simp only [isPg] at *
                 generalize geoAll (2 * len) g = G at *
                 generalize geoAll (2 * l0) g0 = G0 at *
                 generalize geoAll (2 * l1) g1 = G1 at *
                 generalize geoAll (2 * l2) g2 = G2 at *
                 generalize geoAll (2 * l3) g3 = G3 at *
                 cases G <;> cases G0 <;> cases G1 <;> cases G2 <;> cases G3 <;> simp at * <;> omega
             · trivial
           · trivial
         · trivial
       · trivial
     · trivial
   · trivial
 · trivial
noncomputable def pShUC : List SV → RdM
 | [.agg [.slcc n len, .slcc h k1]] => .read n fun o0 => (match intsFrom .i64 o0.c with
   | some (m0, g) => .read h fun o1 => (match holU o1.c with
   | some (k, q0, l0, q1, l1, q2, l2, q3, l3) => .read q0 fun o2 => (match intsFrom .i64 o2.c with
   | some (m2, g0) => .read q1 fun o3 => (match intsFrom .i64 o3.c with
   | some (m3, g1) => .read q2 fun o4 => (match intsFrom .i64 o4.c with
   | some (m4, g2) => .read q3 fun o5 => (match intsFrom .i64 o5.c with
   | some (m5, g3) => .ret ⟨[.agg [.slcc 0 len, .slcc 1 k]], [(0, ⟨false, 28, .ints .i64 m0 g, 0⟩), (1, ⟨false, 26, .upto k [.slcc 2 l0, .slcc 3 l1, .slcc 4 l2, .slcc 5 l3], 0⟩), (2, ⟨false, 28, .ints .i64 m2 g0, 0⟩), (3, ⟨false, 28, .ints .i64 m3 g1, 0⟩), (4, ⟨false, 28, .ints .i64 m4 g2, 0⟩), (5, ⟨false, 28, .ints .i64 m5 g3, 0⟩)], .agg [.int .i64 3, .slcc 6 len, .slcc 7 k], [], [(6, ⟨true, 23, .ints .i64 (2 * len) g, 2⟩), (7, ⟨true, 25, .upto k [.slcc 8 l0, .slcc 9 l1, .slcc 10 l2, .slcc 11 l3], 1⟩), (8, ⟨true, 23, .ints .i64 (2 * l0) g0, 2⟩), (9, ⟨true, 23, .ints .i64 (2 * l1) g1, 2⟩), (10, ⟨true, 23, .ints .i64 (2 * l2) g2, 2⟩), (11, ⟨true, 23, .ints .i64 (2 * l3) g3, 2⟩)], some (k = k1 ∧ m0 = 2 * len ∧ m2 = 2 * l0 ∧ m3 = 2 * l1 ∧ m4 = 2 * l2 ∧ m5 = 2 * l3 ∧ hab k l0 l1 l2 l3 ∧ len ≤ 1000000 ∧ l0 ≤ 1000000 ∧ l1 ≤ 1000000 ∧ l2 ≤ 1000000 ∧ l3 ≤ 1000000)⟩
   | none => .fail)
   | none => .fail)
   | none => .fail)
   | none => .fail)
   | none => .fail)
   | none => .fail)
 | _ => .fail
theorem vc_pShU (len : Nat) (k l0 l1 l2 l3 : Nat) (_ _ _ _ : Nm)  (g : Nat → Int) (g0 : Nat → Int) (g1 : Nat → Int) (g2 : Nat → Int) (g3 : Nat → Int) : runA GPS1 6 [(3, .unr [⟨Nat, fun _ => ⟨26, [(2, .ptr 8 0), (3, .ptr 6 0), (11, .slcc 1 k), (12, .int .i64 k), (13, .int .i64 0)], [(0, ⟨false, 28, .ints .i64 (2 * len) g, 0⟩), (1, ⟨false, 26, .upto k [.slcc 2 l0, .slcc 3 l1, .slcc 4 l2, .slcc 5 l3], 0⟩), (2, ⟨false, 28, .ints .i64 (2 * l0) g0, 0⟩), (3, ⟨false, 28, .ints .i64 (2 * l1) g1, 0⟩), (4, ⟨false, 28, .ints .i64 (2 * l2) g2, 0⟩), (5, ⟨false, 28, .ints .i64 (2 * l3) g3, 0⟩), (6, ⟨true, 39, .cells [.int .i64 3, .slcc 7 len, .nils], 0⟩), (7, ⟨true, 23, .ints .i64 (2 * len) g, 2⟩), (8, ⟨true, 39, .cells [.int .i64 0, .nils, .nils], 0⟩)], 9⟩, fun _ => 0 ≤ k, fun _ => 0⟩, ⟨Nat, fun _ => ⟨26, [(2, .ptr 8 0), (3, .ptr 6 0), (11, .slcc 1 k), (12, .int .i64 k), (13, .int .i64 1)], [(0, ⟨false, 28, .ints .i64 (2 * len) g, 0⟩), (1, ⟨false, 26, .upto k [.slcc 2 l0, .slcc 3 l1, .slcc 4 l2, .slcc 5 l3], 0⟩), (2, ⟨false, 28, .ints .i64 (2 * l0) g0, 0⟩), (3, ⟨false, 28, .ints .i64 (2 * l1) g1, 0⟩), (4, ⟨false, 28, .ints .i64 (2 * l2) g2, 0⟩), (5, ⟨false, 28, .ints .i64 (2 * l3) g3, 0⟩), (6, ⟨true, 39, .cells [.int .i64 3, .slcc 7 len, .slcc 9 1], 0⟩), (7, ⟨true, 23, .ints .i64 (2 * len) g, 2⟩), (8, ⟨true, 39, .cells [.int .i64 0, .nils, .nils], 0⟩), (9, ⟨true, 25, .cells [.slcc 10 l0], 1⟩), (10, ⟨true, 23, .ints .i64 (2 * l0) g0, 2⟩)], 11⟩, fun _ => 1 ≤ k, fun _ => 0⟩, ⟨Nat, fun _ => ⟨26, [(2, .ptr 8 0), (3, .ptr 6 0), (11, .slcc 1 k), (12, .int .i64 k), (13, .int .i64 2)], [(0, ⟨false, 28, .ints .i64 (2 * len) g, 0⟩), (1, ⟨false, 26, .upto k [.slcc 2 l0, .slcc 3 l1, .slcc 4 l2, .slcc 5 l3], 0⟩), (2, ⟨false, 28, .ints .i64 (2 * l0) g0, 0⟩), (3, ⟨false, 28, .ints .i64 (2 * l1) g1, 0⟩), (4, ⟨false, 28, .ints .i64 (2 * l2) g2, 0⟩), (5, ⟨false, 28, .ints .i64 (2 * l3) g3, 0⟩), (6, ⟨true, 39, .cells [.int .i64 3, .slcc 7 len, .slcc 9 2], 0⟩), (7, ⟨true, 23, .ints .i64 (2 * len) g, 2⟩), (8, ⟨true, 39, .cells [.int .i64 0, .nils, .nils], 0⟩), (9, ⟨true, 25, .cells [.slcc 10 l0, .slcc 11 l1], 1⟩), (10, ⟨true, 23, .ints .i64 (2 * l0) g0, 2⟩), (11, ⟨true, 23, .ints .i64 (2 * l1) g1, 2⟩)], 12⟩, fun _ => 2 ≤ k, fun _ => 0⟩, ⟨Nat, fun _ => ⟨26, [(2, .ptr 8 0), (3, .ptr 6 0), (11, .slcc 1 k), (12, .int .i64 k), (13, .int .i64 3)], [(0, ⟨false, 28, .ints .i64 (2 * len) g, 0⟩), (1, ⟨false, 26, .upto k [.slcc 2 l0, .slcc 3 l1, .slcc 4 l2, .slcc 5 l3], 0⟩), (2, ⟨false, 28, .ints .i64 (2 * l0) g0, 0⟩), (3, ⟨false, 28, .ints .i64 (2 * l1) g1, 0⟩), (4, ⟨false, 28, .ints .i64 (2 * l2) g2, 0⟩), (5, ⟨false, 28, .ints .i64 (2 * l3) g3, 0⟩), (6, ⟨true, 39, .cells [.int .i64 3, .slcc 7 len, .slcc 9 3], 0⟩), (7, ⟨true, 23, .ints .i64 (2 * len) g, 2⟩), (8, ⟨true, 39, .cells [.int .i64 0, .nils, .nils], 0⟩), (9, ⟨true, 25, .cells [.slcc 10 l0, .slcc 11 l1, .slcc 12 l2], 1⟩), (10, ⟨true, 23, .ints .i64 (2 * l0) g0, 2⟩), (11, ⟨true, 23, .ints .i64 (2 * l1) g1, 2⟩), (12, ⟨true, 23, .ints .i64 (2 * l2) g2, 2⟩)], 13⟩, fun _ => 3 ≤ k, fun _ => 0⟩, ⟨Nat, fun _ => ⟨26, [(2, .ptr 8 0), (3, .ptr 6 0), (11, .slcc 1 k), (12, .int .i64 k), (13, .int .i64 4)], [(0, ⟨false, 28, .ints .i64 (2 * len) g, 0⟩), (1, ⟨false, 26, .upto k [.slcc 2 l0, .slcc 3 l1, .slcc 4 l2, .slcc 5 l3], 0⟩), (2, ⟨false, 28, .ints .i64 (2 * l0) g0, 0⟩), (3, ⟨false, 28, .ints .i64 (2 * l1) g1, 0⟩), (4, ⟨false, 28, .ints .i64 (2 * l2) g2, 0⟩), (5, ⟨false, 28, .ints .i64 (2 * l3) g3, 0⟩), (6, ⟨true, 39, .cells [.int .i64 3, .slcc 7 len, .slcc 9 4], 0⟩), (7, ⟨true, 23, .ints .i64 (2 * len) g, 2⟩), (8, ⟨true, 39, .cells [.int .i64 0, .nils, .nils], 0⟩), (9, ⟨true, 25, .cells [.slcc 10 l0, .slcc 11 l1, .slcc 12 l2, .slcc 13 l3], 1⟩), (10, ⟨true, 23, .ints .i64 (2 * l0) g0, 2⟩), (11, ⟨true, 23, .ints .i64 (2 * l1) g1, 2⟩), (12, ⟨true, 23, .ints .i64 (2 * l2) g2, 2⟩), (13, ⟨true, 23, .ints .i64 (2 * l3) g3, 2⟩)], 14⟩, fun _ => 4 ≤ k, fun _ => 0⟩])] [] (codeOf Tryz.f48) (init Tryz.f48.ntmps [.agg [.slcc 0 len, .slcc 1 k]] [(0, ⟨false, 28, .ints .i64 (2 * len) g, 0⟩), (1, ⟨false, 26, .upto k [.slcc 2 l0, .slcc 3 l1, .slcc 4 l2, .slcc 5 l3], 0⟩), (2, ⟨false, 28, .ints .i64 (2 * l0) g0, 0⟩), (3, ⟨false, 28, .ints .i64 (2 * l1) g1, 0⟩), (4, ⟨false, 28, .ints .i64 (2 * l2) g2, 0⟩), (5, ⟨false, 28, .ints .i64 (2 * l3) g3, 0⟩)] 6) (endK GPS1.E.T Tryz.f48.results.toList fun S v => postP 6 ⟨[.agg [.slcc 0 len, .slcc 1 k]], [(0, ⟨false, 28, .ints .i64 (2 * len) g, 0⟩), (1, ⟨false, 26, .upto k [.slcc 2 l0, .slcc 3 l1, .slcc 4 l2, .slcc 5 l3], 0⟩), (2, ⟨false, 28, .ints .i64 (2 * l0) g0, 0⟩), (3, ⟨false, 28, .ints .i64 (2 * l1) g1, 0⟩), (4, ⟨false, 28, .ints .i64 (2 * l2) g2, 0⟩), (5, ⟨false, 28, .ints .i64 (2 * l3) g3, 0⟩)], .agg [.int .i64 3, .slcc 6 len, .slcc 7 k], [], [(6, ⟨true, 23, .ints .i64 (2 * len) g, 2⟩), (7, ⟨true, 25, .upto k [.slcc 8 l0, .slcc 9 l1, .slcc 10 l2, .slcc 11 l3], 1⟩), (8, ⟨true, 23, .ints .i64 (2 * l0) g0, 2⟩), (9, ⟨true, 23, .ints .i64 (2 * l1) g1, 2⟩), (10, ⟨true, 23, .ints .i64 (2 * l2) g2, 2⟩), (11, ⟨true, 23, .ints .i64 (2 * l3) g3, 2⟩)], some (k = k ∧ 2 * len = 2 * len ∧ 2 * l0 = 2 * l0 ∧ 2 * l1 = 2 * l1 ∧ 2 * l2 = 2 * l2 ∧ 2 * l3 = 2 * l3 ∧ hab k l0 l1 l2 l3 ∧ len ≤ 1000000 ∧ l0 ≤ 1000000 ∧ l1 ≤ 1000000 ∧ l2 ≤ 1000000 ∧ l3 ≤ 1000000)⟩ S v) = (
(2 * len = 2 * len ∧ len ≤ 1000000) ∧ (∃ (_ : Nat), 0 ≤ k ∧ ((True ∧ 0 = 0) ∧ (True ∧ 0 = 0) ∧ (True ∧ k = k) ∧ (↑k : Int) = (↑k : Int) ∧ (0 : Int) = 0 ∧ True) ∧ True ∧ (2 * len ≤ 2 * len ∧ ∀ (i : Nat), i < 2 * len → g i = g i) ∧ True ∧ (k = k ∧ (0 < k → True ∧ l0 = l0) ∧ (1 < k → True ∧ l1 = l1) ∧ (2 < k → True ∧ l2 = l2) ∧ (3 < k → True ∧ l3 = l3) ∧ True) ∧ True ∧
(2 * l0 ≤ 2 * l0 ∧ ∀ (i : Nat), i < 2 * l0 → g0 i = g0 i) ∧ True ∧ (2 * l1 ≤ 2 * l1 ∧ ∀ (i : Nat), i < 2 * l1 → g1 i = g1 i) ∧ True ∧ (2 * l2 ≤ 2 * l2 ∧ ∀ (i : Nat), i < 2 * l2 →
 g2 i = g2 i) ∧ True ∧ (2 * l3 ≤ 2 * l3 ∧ ∀ (i : Nat), i < 2 * l3 → g3 i = g3 i) ∧ True ∧ (39 = 39 ∧ 0 = 0 ∧ (3 : Int) = 3 ∧ (True ∧ len = len) ∧ True ∧ True) ∧ True ∧ (23 = 23 ∧ 2 = 2 ∧ 2 * len ≤ 2 * len ∧ ∀ (i : Nat), i < 2 * len → g i = g i) ∧ True ∧ (39 = 39 ∧ 0 = 0 ∧ (0 : Int) = 0 ∧ True ∧ True ∧ True) ∧ True) ∧ (∀ (_ : Nat), 0
≤ k → (decide (0 < (↑k : Int)) = true → (((0 : Int) ≤ 0 ∧ 0 < (↑k : Int)) ∧ 1 ≤ k) ∧ 1 ≤ k ∧ (2 * l0 = 2 * l0 ∧ l0 ≤ 1000000) ∧ true = true ∧ ∃ (_ : Nat), 1 ≤ k ∧ ((True ∧ 0 = 0) ∧ (True ∧ 0 = 0) ∧ (True ∧ k = k) ∧ (↑k : Int) = (↑k : Int) ∧ (1 : Int) = 1 ∧ True) ∧ True ∧ (2 * len ≤ 2 * len ∧ ∀ (i : Nat), i < 2 * len → g i = g i) ∧ True ∧ (k = k ∧ (0 < k
→ True ∧ l0 = l0) ∧ (1 < k → True ∧ l1 = l1) ∧ (2 < k → True ∧ l2 = l2) ∧ (3 < k → True ∧ l3 = l3) ∧ True) ∧ True ∧ (2 * l0 ≤ 2 * l0 ∧ ∀ (i : Nat), i < 2 * l0 → g0 i = g0 i) ∧ True ∧ (2 * l1 ≤
2 * l1 ∧ ∀ (i : Nat), i < 2 * l1 → g1 i = g1 i) ∧ True ∧ (2 * l2 ≤ 2 * l2 ∧ ∀ (i : Nat), i < 2 * l2 → g2 i = g2 i) ∧ True ∧ (2 * l3 ≤ 2 * l3 ∧ ∀ (i : Nat), i < 2 * l3 → g3 i = g3 i) ∧
 True ∧ (39 = 39 ∧ 0 = 0 ∧ (3 : Int) = 3 ∧ (True ∧ len = len) ∧ (True ∧ 1 = 1) ∧ True) ∧ True ∧ (23 = 23 ∧ 2 = 2 ∧ 2 * len ≤ 2 * len ∧ ∀ (i : Nat),
 i < 2 * len → g i = g i) ∧ True ∧ (39 = 39 ∧ 0 = 0 ∧ (0 : Int) = 0 ∧ True ∧ True ∧ True) ∧ True ∧ (25 = 25 ∧ 1 = 1 ∧ (True ∧ l0 = l0) ∧ True) ∧ True ∧ (23 = 23 ∧ 2 = 2 ∧ 2 * l0 ≤ 2 * l0 ∧ ∀ (i : Nat), i < 2 * l0 → g0 i = g0 i) ∧ True) ∧ (decide (0 < (↑k : Int)) = false → ((3 : Int) = 3 ∧ (True ∧ len = len) ∧ k = 0 ∧ True) ∧ True ∧ (23 = 23 ∧ 2 = 2 ∧ 2 * len ≤ 2 * len ∧ ∀ (i : Nat), i < 2 * len → g i = g i) ∧ True ∧ k = 0 ∧ True ∧ 2 * l0 = 0 ∧ True ∧ 2 * l1 = 0 ∧ True ∧ 2 * l2 = 0 ∧ True ∧ 2 * l3 = 0 ∧ True)) ∧ (∀ (_ : Nat), 1 ≤ k → (decide (1 < (↑k : Int)) = true → (((0 : Int) ≤ 1 ∧ 1 < (↑k : Int)) ∧ 1 ≤ k) ∧ 2 ≤ k ∧ (2 * l1 = 2 * l1 ∧ l1 ≤
1000000) ∧ (List.length [SV.slcc 10 l0] = 1 ∧ 48 ≤ 140737488355328 ∧ 2 ≤ 9223372036854775807) ∧ true = true ∧ ∃ (_ : Nat), 2 ≤ k ∧ ((True ∧ 0 = 0) ∧ (True ∧ 0 =
0) ∧ (True ∧ k = k) ∧ (↑k : Int) = (↑k : Int) ∧ (2 : Int) = 2 ∧ True) ∧ True ∧ (2 * len ≤ 2 * len ∧ ∀ (i : Nat), i < 2 * len → g i = g i) ∧ True ∧ (k = k ∧ (0 < k → True ∧ l0 = l0) ∧ (1 < k →
 True ∧ l1 = l1) ∧ (2 < k → True ∧ l2 = l2) ∧ (3 < k → True ∧ l3 = l3) ∧ True) ∧ True ∧ (2 * l0 ≤ 2 * l0 ∧ ∀ (i : Nat), i < 2 * l0 → g0 i = g0 i) ∧ True ∧ (2 * l1 ≤ 2 * l1 ∧ ∀ (i : Nat), i < 2 * l1 → g1 i = g1 i) ∧ True ∧ (2 * l2 ≤ 2 * l2 ∧ ∀ (i : Nat), i < 2 * l2 → g2 i = g2 i) ∧ True ∧ (2 * l3 ≤ 2 * l3 ∧ ∀ (i : Nat), i < 2 * l3 → g3 i = g3 i) ∧ True ∧ (39 = 39 ∧ 0 = 0 ∧ (3 : Int) = 3 ∧ (True ∧ len = len) ∧ (True ∧ 2 = 2) ∧ True) ∧ True ∧ (23 = 23 ∧ 2 = 2 ∧ 2 * len ≤ 2 * len ∧ ∀ (i : Nat), i < 2 * len → g i = g i) ∧
 True ∧ (39 = 39 ∧ 0 = 0 ∧ (0 : Int) = 0 ∧ True ∧ True ∧ True) ∧ True ∧ (25 = 25 ∧ 1 = 1 ∧ (True ∧ l0 = l0) ∧ (True ∧ l1 = l1) ∧ True) ∧ True ∧ (23 = 23 ∧ 2 = 2 ∧ 2 * l0 ≤ 2 * l0 ∧ ∀ (i : Nat), i < 2 * l0 → g0 i = g0 i) ∧ True ∧ (23 = 23 ∧ 2 = 2 ∧ 2 * l1 ≤ 2 * l1 ∧ ∀ (i : Nat), i < 2 * l1 → g1 i = g1 i) ∧ True) ∧
(decide (1 < (↑k : Int)) = false → ((3 : Int) = 3 ∧ (True ∧ len = len) ∧ (True ∧ 1 = k) ∧ True) ∧ True ∧ (23 = 23 ∧ 2 = 2 ∧ 2 * len ≤ 2 * len ∧ ∀ (i : Nat), i < 2 * len →
 g i = g i) ∧ True ∧ (25 = 25 ∧ 1 = 1 ∧ (True ∧ l0 = l0) ∧ k = 1) ∧ True ∧ (23 = 23 ∧ 2 = 2 ∧ 2 * l0 ≤ 2 * l0 ∧ ∀ (i : Nat), i < 2 * l0 → g0 i = g0 i) ∧
 True ∧ 2 * l1 = 0 ∧ True ∧ 2 * l2 = 0 ∧ True ∧ 2 * l3 = 0 ∧ True)) ∧ (∀ (_ : Nat), 2 ≤ k → (decide (2 < (↑k : Int)) = true → (((0 : Int) ≤ 2 ∧ 2 < (↑k : Int)) ∧ 1
≤ k) ∧ 3 ≤ k ∧ (2 * l2 = 2 * l2 ∧ l2 ≤ 1000000) ∧ (List.length [SV.slcc 10 l0, SV.slcc 11 l1] = 2 ∧ 72 ≤ 140737488355328 ∧ 3 ≤ 9223372036854775807) ∧ true = true
∧ ∃ (_ : Nat), 3 ≤ k ∧ ((True ∧ 0 = 0) ∧ (True ∧ 0 = 0) ∧ (True ∧ k = k) ∧ (↑k : Int) = (↑k : Int) ∧ (3 : Int) = 3 ∧ True) ∧ True ∧ (2 * len ≤ 2 * len ∧ ∀ (i : Nat), i < 2 * len
→ g i = g i) ∧ True ∧ (k = k ∧ (0 < k → True ∧ l0 = l0) ∧ (1 < k → True ∧ l1 = l1) ∧ (2 < k → True ∧ l2 = l2) ∧ (3 < k → True ∧ l3 = l3) ∧ True) ∧ True ∧ (2 * l0 ≤ 2 * l0 ∧ ∀ (i : Nat), i < 2 *
 l0 → g0 i = g0 i) ∧ True ∧ (2 * l1 ≤ 2 * l1 ∧ ∀ (i : Nat), i < 2 * l1 → g1 i = g1 i) ∧ True ∧ (2 * l2 ≤ 2 * l2 ∧ ∀ (i : Nat), i < 2 * l2 → g2 i = g2 i) ∧ True ∧ (2 * l3 ≤ 2 * l3 ∧ ∀ (i :
 Nat), i < 2 * l3 → g3 i = g3 i) ∧ True ∧ (39 = 39 ∧ 0 = 0 ∧ (3 : Int) = 3 ∧ (True ∧ len = len) ∧ (True ∧ 3 = 3) ∧ True) ∧ True ∧ (23 = 23 ∧ 2 = 2 ∧ 2 * len ≤ 2 * len ∧ ∀ (i : Nat), i < 2 * len → g i = g i) ∧ True ∧ (39 = 39 ∧ 0 = 0 ∧ (0 : Int) = 0 ∧ True ∧ True ∧ True) ∧ True ∧ (25 = 25 ∧ 1 = 1 ∧ (True ∧
 l0 = l0) ∧ (True ∧ l1 = l1) ∧ (True ∧ l2 = l2) ∧ True) ∧ True ∧ (23 = 23 ∧ 2 = 2 ∧ 2 * l0 ≤ 2 * l0 ∧ ∀ (i : Nat), i < 2 * l0 → g0 i = g0 i) ∧ True ∧ (23 = 23 ∧ 2 = 2 ∧ 2 * l1 ≤ 2 * l1 ∧ ∀ (i : Nat), i < 2 * l1 → g1 i = g1 i) ∧ True ∧ (23 = 23 ∧ 2 = 2 ∧ 2 * l2 ≤ 2 * l2 ∧ ∀ (i : Nat), i < 2 * l2 → g2 i = g2 i) ∧ True) ∧ (decide ((2
: Int) < (↑k : Int)) = false → ((3 : Int) = 3 ∧ (True ∧ len = len) ∧ (True ∧ 2 = k) ∧ True) ∧ True ∧ (23 = 23 ∧ 2 = 2 ∧ 2 * len ≤ 2 * len ∧ ∀ (i : Nat), i < 2 * len → g i = g i)
∧ True ∧ (25 = 25 ∧ 1 = 1 ∧ (True ∧ l0 = l0) ∧ (True ∧ l1 = l1) ∧ k = 2) ∧ True ∧ (23 = 23 ∧ 2 = 2 ∧ 2 * l0 ≤ 2 * l0 ∧ ∀ (i : Nat), i < 2 * l0 → g0 i = g0
 i) ∧ True ∧ (23 = 23 ∧ 2 = 2 ∧ 2 * l1 ≤ 2 * l1 ∧ ∀ (i : Nat), i < 2 * l1 → g1 i = g1 i) ∧ True ∧ 2 * l2 = 0 ∧ True ∧ 2 * l3 = 0 ∧ True)) ∧ (∀ (_ : Nat), 3
≤ k → (decide (3 < (↑k : Int)) = true → (((0 : Int) ≤ 3 ∧ 3 < (↑k : Int)) ∧ 1 ≤ k) ∧ 4 ≤ k ∧ (2 * l3 = 2 * l3 ∧ l3 ≤ 1000000) ∧ (List.length [SV.slcc 10 l0, SV.slcc 11
 l1, SV.slcc 12 l2] = 3 ∧ 96 ≤ 140737488355328 ∧ 4 ≤ 9223372036854775807) ∧ true = true ∧ ∃ (_ : Nat), 4 ≤ k ∧ ((True ∧ 0 = 0) ∧ (True ∧ 0 = 0) ∧ (True ∧ k = k) ∧
(↑k : Int) = (↑k : Int) ∧ (4 : Int) = 4 ∧ True) ∧ True ∧ (2 * len ≤ 2 * len ∧ ∀ (i : Nat), i < 2 * len → g i = g i) ∧ True ∧ (k = k ∧ (0 < k → True ∧ l0 = l0) ∧ (1 < k → True ∧ l1 = l1) ∧ (2 < k
→ True ∧ l2 = l2) ∧ (3 < k → True ∧ l3 = l3) ∧ True) ∧ True ∧ (2 * l0 ≤ 2 * l0 ∧ ∀ (i : Nat), i < 2 * l0 → g0 i = g0 i) ∧ True ∧ (2 * l1 ≤ 2 * l1 ∧ ∀ (i : Nat), i < 2 * l1 → g1 i = g1 i) ∧ True
∧ (2 * l2 ≤ 2 * l2 ∧ ∀ (i : Nat), i < 2 * l2 → g2 i = g2 i) ∧ True ∧ (2 * l3 ≤ 2 * l3 ∧ ∀ (i : Nat), i < 2 * l3 → g3 i = g3 i) ∧ True ∧ (39 = 39 ∧ 0 = 0 ∧ (3 : Int) = (3
: Int) ∧ (True ∧ len = len) ∧ (True ∧ 4 = 4) ∧ True) ∧ True ∧ (23 = 23 ∧ 2 = 2 ∧ 2 * len ≤ 2 * len ∧ ∀ (i : Nat), i < 2 * len → g i = g i) ∧ True ∧ (39 = 39 ∧ 0 = 0 ∧ (0 : Int) = 0 ∧ True ∧ True ∧ True) ∧ True ∧ (25 = 25 ∧ 1 = 1 ∧ (True ∧ l0 = l0) ∧ (True ∧ l1 = l1) ∧ (True ∧ l2 = l2) ∧ (True ∧ l3 = l3) ∧ True) ∧ True ∧ (23 = 23 ∧ 2 = 2 ∧ 2 * l0 ≤ 2 * l0 ∧ ∀ (i : Nat), i < 2 * l0 → g0 i = g0 i) ∧ True ∧ (23 = 23 ∧ 2 = 2 ∧ 2 * l1 ≤ 2 * l1 ∧ ∀ (i : Nat), i < 2 * l1 → g1 i = g1 i) ∧ True ∧
(23 = 23 ∧ 2 = 2 ∧ 2 * l2 ≤ 2 * l2 ∧ ∀ (i : Nat), i < 2 * l2 → g2 i = g2 i) ∧ True ∧ (23 = 23 ∧ 2 = 2 ∧ 2 * l3 ≤ 2 * l3 ∧ ∀ (i : Nat), i < 2 * l3 → g3 i = g3 i) ∧ True) ∧ (decide (3 < (↑k : Int)) = false → ((3 : Int) = 3 ∧ (True ∧ len = len) ∧ (True ∧ 3 = k) ∧ True) ∧ True ∧ (23 = 23 ∧ 2 = 2 ∧ 2 * len ≤ 2 * len ∧
∀ (i : Nat), i < 2 * len → g i = g i) ∧ True ∧ (25 = 25 ∧ 1 = 1 ∧ (True ∧ l0 = l0) ∧ (True ∧ l1 = l1) ∧ (True ∧ l2 = l2) ∧ k = 3) ∧ True ∧ (23 = 23 ∧ 2 = 2 ∧ 2 *
 l0 ≤ 2 * l0 ∧ ∀ (i : Nat), i < 2 * l0 → g0 i = g0 i) ∧ True ∧ (23 = 23 ∧ 2 = 2 ∧ 2 * l1 ≤ 2 * l1 ∧ ∀ (i : Nat), i < 2 * l1 → g1 i = g1 i) ∧ True ∧ (23 = 23 ∧ 2 = 2 ∧ 2 * l2 ≤ 2 * l2 ∧ ∀ (i : Nat), i < 2 * l2 → g2 i = g2 i) ∧ True ∧ 2 * l3 = 0 ∧ True)) ∧ (∀ (_ : Nat), 4 ≤ k → (decide (4 < (↑k : Int)) = true → (((0 : Int) ≤ 4 ∧ (4 :
 Int) < (↑k : Int)) ∧ 1 ≤ k) ∧ False) ∧ (decide (4 < (↑k : Int)) = false → ((3 : Int) = 3 ∧ (True ∧ len = len) ∧ (True ∧ 4 = k) ∧ True) ∧ True ∧ (23 = 23 ∧ 2 = 2 ∧ 2 * len ≤ 2 * len ∧ ∀ (i : Nat), i < 2 * len → g i = g i) ∧ True ∧ (25 = 25 ∧ 1 = 1 ∧ (True ∧ l0 = l0) ∧ (True ∧ l1 = l1) ∧ (True ∧ l2 = l2) ∧ (True ∧ l3 = l3) ∧ k = 4) ∧ True ∧ (23 = 23 ∧ 2 = 2 ∧ 2 * l0 ≤ 2 * l0 ∧ ∀ (i : Nat), i < 2 * l0 → g0 i = g0 i) ∧ True ∧ (23 = 23 ∧ 2 = 2 ∧ 2 * l1 ≤ 2 * l1 ∧ ∀ (i : Nat), i < 2 * l1 → g1 i = g1 i) ∧ True ∧
(23 = 23 ∧ 2 = 2 ∧ 2 * l2 ≤ 2 * l2 ∧ ∀ (i : Nat), i < 2 * l2 → g2 i = g2 i) ∧ True ∧ (23 = 23 ∧ 2 = 2 ∧ 2 * l3 ≤ 2 * l3 ∧ ∀ (i : Nat), i < 2 * l3 → g3 i = g3 i) ∧ True)) ∧ True) := by kernel_rfl
theorem pShU : ConOk Tryz.prog 48 (conR pShUC) := by
 refine con_of_vc gPS1 Tryz.func48 rfl (by kernel_rfl) fun args => ?_
 unfold pShUC
 split
 · rename_i n len h k1
   intro o0
   show RdM.All _ (match intsFrom .i64 o0.c with | some (m, g) => _ | none => _) _
   split
   · rename_i m0 g hm0
     intro o1
     show RdM.All _ (match holU o1.c with | some (k, q0, l0, q1, l1, q2, l2, q3, l3) => _ | none => _) _
     split
     · rename_i k q0 l0 q1 l1 q2 l2 q3 l3 hm1
       intro o2
       show RdM.All _ (match intsFrom .i64 o2.c with | some (m, g) => _ | none => _) _
       split
       · rename_i m2 g0 hm2
         intro o3
         show RdM.All _ (match intsFrom .i64 o3.c with | some (m, g) => _ | none => _) _
         split
         · rename_i m3 g1 hm3
           intro o4
           show RdM.All _ (match intsFrom .i64 o4.c with | some (m, g) => _ | none => _) _
           split
           · rename_i m4 g2 hm4
             intro o5
             show RdM.All _ (match intsFrom .i64 o5.c with | some (m, g) => _ | none => _) _
             split
             · rename_i m5 g3 hm5
               intro ho
               replace ho : k = k1 ∧ m0 = 2 * len ∧ m2 = 2 * l0 ∧ m3 = 2 * l1 ∧ m4 = 2 * l2 ∧ m5 = 2 * l3 ∧ hab k l0 l1 l2 l3 ∧ len ≤ 1000000 ∧ l0 ≤ 1000000 ∧ l1 ≤ 1000000 ∧ l2 ≤ 1000000 ∧ l3 ≤ 1000000 := ho
               obtain ⟨heq0, hsz0, hsz2, hsz3, hsz4, hsz5, ho⟩ := ho
               subst heq0
               subst hsz0
               subst hsz2
               subst hsz3
               subst hsz4
               subst hsz5
               refine ⟨?_, _, _, (vc_pShU len k l0 l1 l2 l3 q0 q1 q2 q3 g g0 g1 g2 g3).mpr ?_⟩
               · refine okFlag_mk rfl ⟨?_, ⟨trivial, (contR_ints hm0).1, ⟨trivial, holU_spec hm1 (by simp [sgSig, fsts, nth, sameN_self]) (by simp [sgSig, fsts, nth, sameN_self]) (by simp [sgSig, fsts, nth, sameN_self]) (by simp [sgSig, fsts, nth, sameN_self]), ⟨trivial, (contR_ints hm2).1, ⟨trivial, (contR_ints hm3).1, ⟨trivial, (contR_ints hm4).1, ⟨trivial, (contR_ints hm5).1, trivial⟩⟩⟩⟩⟩⟩⟩
                 simp [eqvRL, eqvR, sgSig, fsts, nth, sameN_self]
               · obtain ⟨⟨h4, a0, a1, a2, a3⟩, b, b0, b1, b2, b3⟩ := ho
                 simp [b, b0, b1, b2, b3]
                 all_goals omega
             · trivial
           · trivial
         · trivial
       · trivial
     · trivial
   · trivial
 · trivial
def genOf : Cont → Option (Nat × (Nat → SV))
 | .gen n f => some (n, f)
 | _ => none
def aOf (f : Nat → SV) (i : Nat) : Option Addr := match f i with
 | .sla a _ _ => a
 | _ => none
def lOf (f : Nat → SV) (i : Nat) : Nat := match f i with
 | .sla _ l _ => l
 | _ => 0
def cOf (f : Nat → SV) (i : Nat) : Nat := match f i with
 | .sla _ _ c => c
 | _ => 0
def slG (f : Nat → SV) (i : Nat) : SV := .sla (aOf f i) (lOf f i) (cOf f i)
def isSl (f : Nat → SV) (k : Nat) : Prop := ∀ i, i < k → f i = slG f i
theorem slG_l (f : Nat → SV) (i : Nat) : lOf (slG f) i = lOf f i := rfl
theorem slG_is (f : Nat → SV) (k : Nat) : isSl (slG f) k := fun _ _ => rfl
theorem genOf_spec {σ : Sig} {c : Cont} {k : Nat} {f : Nat → SV} (h : genOf c = some (k, f)) (hs : isSl f k) : contR σ c (.gen k (slG f)) := by
 unfold genOf at h
 split at h
 · rename_i n f'
   simp only [Option.some.injEq, Prod.mk.injEq] at h
   obtain ⟨rfl, rfl⟩ := h
   refine ⟨Nat.le_refl _, fun i hi => ?_⟩
   show eqvR σ (f' i) (slG f' i)
   rw [hs i hi]
   exact ⟨rfl, rfl, rfl⟩
 · cases h
def zg4 (k : Nat) (f : Nat → SV) : Fam := ⟨Nat, fun i =>
 ⟨18, [(8, .slcc 0 k), (9, .int .i64 k), (10, .int .i64 i)], [(0, ⟨false, 26, .gen k (slG f), 0⟩)], 1⟩, fun i => i ≤ k ∧ ∀ j, j < i → fitB (lOf f j) = true, fun i => k - i⟩
noncomputable def zf3gC : List SV → RdM
 | [.slcc h k] => .read h fun o0 => (match genOf o0.c with
   | some (kk, f) => .ret ⟨[.slcc 0 k], [(0, ⟨false, 26, .gen kk (slG f), 0⟩)], .bool (fitB k && allB (fun i => fitB (lOf f i)) k), [], [], some (kk = k ∧ isSl f kk)⟩
   | none => .fail)
 | _ => .fail
theorem vc_zf3g (k kk : Nat) (f : Nat → SV) : runA G0 1 [(4, zg4 k f)] [] (codeOf Tryz.f78) (init Tryz.f78.ntmps [.slcc 0 k] [(0, ⟨false, 26, .gen kk (slG f), 0⟩)] 1) (endK G0.E.T Tryz.f78.results.toList fun S v => postP 1 ⟨[.slcc 0 k], [(0, ⟨false, 26, .gen kk (slG f), 0⟩)], .bool (fitB k && allB (fun i => fitB (lOf f i)) k), [], [], some (kk = k ∧ isSl f kk)⟩ S v) = (
(decide (2147483647 < (↑k : Int)) = true → (fitB k && allB (fun (i : Nat) => fitB (lOf f i)) k) = false ∧ True) ∧ (decide (2147483647 < (↑k : Int)) = false → (∃
(i : Nat), (i ≤ k ∧ ∀ (j : Nat), j < i → fitB (lOf f j) = true) ∧ ((True ∧ k = k) ∧ (↑k : Int) = (↑k : Int) ∧ 0 = (↑i : Int) ∧ True) ∧ (∀ (i : Nat), i < k → true = true) ∧ (k ≤ kk ∧ ∀ (i : Nat), i < k →
 aOf f i = aOf f i ∧ lOf f i = lOf f i ∧ cOf f i = cOf f i) ∧ True) ∧ ∀ (i : Nat), (i ≤ k ∧ ∀ (j : Nat), j < i → fitB
(lOf f j) = true) → (decide ((↑i : Int) < (↑k : Int)) = true → ((0 ≤ (↑i : Int) ∧ (↑i : Int) < (↑k : Int)) ∧ 1 ≤ k) ∧ 0 + Int.toNat (↑i : Int) * 1 + 1 ≤ k ∧ (decide ((2147483647 : Int) <
(↑(lOf f (0 + Int.toNat (↑i : Int) * 1)) : Int)) = true → (fitB k && allB (fun (i : Nat) => fitB (lOf f i)) k) = false ∧ True) ∧ (decide
(2147483647 < (↑(lOf f (0 + Int.toNat (↑i : Int) * 1)) : Int)) = false → ∃ (i' : Nat), (i' ≤ k ∧ ∀ (j : Nat), j < i' → fitB (lOf f j) = true) ∧ k - i' < k - i ∧ ((True ∧ k
= k) ∧ (↑k : Int) = (↑k : Int) ∧ Go.IntKind.wrap .i64 ((↑i : Int) + 1) = (↑i' : Int) ∧ True) ∧ (∀ (i : Nat), i < k → true = true) ∧ (k ≤ k ∧ ∀ (i : Nat), i < k → aOf f i = aOf f i ∧ lOf f
 i = lOf f i ∧ cOf f i = cOf f i) ∧ True)) ∧ (decide ((↑i : Int) < (↑k : Int)) = false → (fitB k && allB (fun (i : Nat) => fitB
(lOf f i)) k) = true ∧ True))) := by kernel_rfl
theorem zf3g : ConOk Tryz.prog 78 (conR zf3gC) := by
 refine con_of_vc g0 Tryz.func78 rfl (by kernel_rfl) fun args => ?_
 unfold zf3gC
 split
 · rename_i h k
   intro o0
   show RdM.All _ (match genOf o0.c with | some (kk, f) => _ | none => _) _
   split
   · rename_i kk f hm0
     intro ho
     replace ho : kk = k ∧ isSl f kk := ho
     refine ⟨?_, _, _, (vc_zf3g k kk f).mpr ?_⟩
     · refine okFlag_mk rfl ⟨?_, ⟨fun _ _ => rfl, genOf_spec hm0 ho.2, trivial⟩⟩
       simp [eqvRL, eqvR, sgSig, fsts, nth, sameN_self]
     · obtain ⟨rfl, hs⟩ := ho
       simp only [true_and, and_true, eq_self, Nat.le_refl, implies_true, Int.toNat_natCast]
       refine ⟨fun h => ?_, fun h => ⟨⟨0, ⟨by omega, fun j hj => by omega⟩, rfl⟩, fun i hi => ⟨fun h => ?_, fun h => ?_⟩⟩⟩
       · have h := of_decide_eq_true h
         have : fitB kk = false := decide_eq_false (by omega)
         rw [this]
         rfl
       · have h0 := of_decide_eq_false ‹decide _ = false›
         have h := of_decide_eq_true h
         have hik : i < kk := by omega
         have hw : IntKind.i64.wrap ((i : Int) + 1) = ((i + 1 : Nat) : Int) := by rw [wrap64 (by omega) (by omega)]; omega
         have e : 0 + i * 1 = i := by omega
         simp only [hw, e]
         refine ⟨⟨⟨by omega, by omega⟩, by omega⟩, by omega, fun q => ?_, fun q => ⟨i + 1, ⟨by omega, fun j hj => ?_⟩, by omega, rfl⟩⟩
         · have q := of_decide_eq_true q
           have : fitB (lOf f i) = false := decide_eq_false (by omega)
           rw [allB_no (p := fun i => fitB (lOf f i)) hik this]
           simp
         · have q := of_decide_eq_false q
           by_cases u : j = i
           · subst u; exact decide_eq_true (by omega)
           · exact hi.2 j (by omega)
       · have h0 := of_decide_eq_false h
         have : i = kk := by omega
         subst this
         have h9 := of_decide_eq_false ‹decide (2147483647 < (i : Int)) = false›
         rw [show fitB i = true from decide_eq_true (by omega), allB_all (p := fun i => fitB (lOf f i)) hi.2]
         rfl
   · trivial
 · trivial
noncomputable def Gzfg : Ctx := ⟨⟨tys, []⟩, [(78, conR zf3gC)]⟩
theorem gzfg : CtxOk Tryz.prog Gzfg := ⟨⟨tysOk, FlatsOk.nil⟩, GamOk.cons zf3g GamOk.nil, by kernel_rfl⟩
noncomputable def zf2gC : List SV → RdM
 | [.agg [.slcc n len, .slcc h k]] => .read n fun o0 => (match intsFrom .i64 o0.c with
   | some (m0, g) => .read h fun o1 => (match genOf o1.c with
   | some (kk, f) => .ret ⟨[.agg [.slcc 0 len, .slcc 1 k]], [(0, ⟨false, 28, .ints .i64 m0 g, 0⟩), (1, ⟨false, 26, .gen kk (slG f), 0⟩)], .bool (fitB len && (fitB k && allB (fun i => fitB (lOf f i)) k)), [], [], some (m0 = 2 * len ∧ kk = k ∧ isSl f kk)⟩
   | none => .fail)
   | none => .fail)
 | _ => .fail
theorem vc_zf2g (len k kk : Nat) (f : Nat → SV)  (g : Nat → Int) : runA Gzfg 2 [] [] (codeOf Tryz.f45) (init Tryz.f45.ntmps [.agg [.slcc 0 len, .slcc 1 k]] [(0, ⟨false, 28, .ints .i64 (2 * len) g, 0⟩), (1, ⟨false, 26, .gen kk (slG f), 0⟩)] 2) (endK Gzfg.E.T Tryz.f45.results.toList fun S v => postP 2 ⟨[.agg [.slcc 0 len, .slcc 1 k]], [(0, ⟨false, 28, .ints .i64 (2 * len) g, 0⟩), (1, ⟨false, 26, .gen kk (slG f), 0⟩)], .bool (fitB len && (fitB k && allB (fun i => fitB (lOf f i)) k)), [], [], some (2 * len = 2 * len ∧ kk = k ∧ isSl f kk)⟩ S v) = (
(decide (2147483647 < (↑len : Int)) = true → (fitB len && (fitB k && allB (fun (i : Nat) => fitB (lOf f i)) k)) = false ∧ True) ∧ (decide ((2147483647 :
 Int) < (↑len : Int)) = false → (kk = k ∧ isSl (slG f) kk) ∧ ((!(fitB k && allB (fun (i : Nat) => fitB (lOf (slG f) i)) k)) =
 true → (fitB len && (fitB k && allB (fun (i : Nat) => fitB (lOf f i)) k)) = false ∧ True) ∧ ((!(fitB k && allB (fun (i :
 Nat) => fitB (lOf (slG f) i)) k)) = false → (fitB len && (fitB k && allB (fun (i : Nat) => fitB (lOf f i))
 k)) = true ∧ True))) := by kernel_rfl
theorem zf2g : ConOk Tryz.prog 45 (conR zf2gC) := by
 refine con_of_vc gzfg Tryz.func45 rfl (by kernel_rfl) fun args => ?_
 unfold zf2gC
 split
 · rename_i n len h k
   intro o0
   show RdM.All _ (match intsFrom .i64 o0.c with | some (m, g) => _ | none => _) _
   split
   · rename_i m0 g hm0
     intro o1
     show RdM.All _ (match genOf o1.c with | some (kk, f) => _ | none => _) _
     split
     · rename_i kk f hm1
       intro ho
       replace ho : m0 = 2 * len ∧ kk = k ∧ isSl f kk := ho
       obtain ⟨hsz0, ho⟩ := ho
       subst hsz0
       refine ⟨?_, _, _, (vc_zf2g len k kk f g).mpr ?_⟩
       · refine okFlag_mk rfl ⟨?_, ⟨trivial, (contR_ints hm0).1, ⟨fun _ _ => rfl, genOf_spec hm1 ho.2, trivial⟩⟩⟩
         simp [eqvRL, eqvR, sgSig, fsts, nth, sameN_self]
       · obtain ⟨rfl, hs⟩ := ho
         simp only [true_and, and_true, eq_self, slG_l]
         generalize (fitB kk && allB (fun i => fitB (lOf f i)) kk) = B
         refine ⟨fun h => ?_, fun h => ⟨slG_is f kk, fun q => ?_, fun q => ?_⟩⟩
         · have h := of_decide_eq_true h
           rw [show fitB len = false from decide_eq_false (by omega)]
           rfl
         · cases B
           · simp
           · cases q
         · have h := of_decide_eq_false h
           rw [show fitB len = true from decide_eq_true (by omega)]
           cases B
           · cases q
           · rfl
     · trivial
   · trivial
 · trivial
noncomputable def isPogC : List SV → RdM
 | [.agg [.slcc n len, .slcc h k]] => .read n fun o0 => (match intsFrom .i64 o0.c with
   | some (m0, g) => .read h fun o1 => (match genOf o1.c with
   | some (kk, f) => .ret ⟨[.agg [.slcc 0 len, .slcc 1 k]], [(0, ⟨false, 28, .ints .i64 m0 g, 0⟩), (1, ⟨false, 26, .gen kk (slG f), 0⟩)], .ff, [], [], some (m0 = 2 * len ∧ 4 < k ∧ kk = k ∧ isSl f kk)⟩
   | none => .fail)
   | none => .fail)
 | _ => .fail
theorem vc_isPog (len k kk : Nat) (f : Nat → SV)  (g : Nat → Int) : runA GzfU 2 [] [] (codeOf Tryz.f46) (init Tryz.f46.ntmps [.agg [.slcc 0 len, .slcc 1 k]] [(0, ⟨false, 28, .ints .i64 (2 * len) g, 0⟩), (1, ⟨false, 26, .gen kk (slG f), 0⟩)] 2) (endK GzfU.E.T Tryz.f46.results.toList fun S v => postP 2 ⟨[.agg [.slcc 0 len, .slcc 1 k]], [(0, ⟨false, 28, .ints .i64 (2 * len) g, 0⟩), (1, ⟨false, 26, .gen kk (slG f), 0⟩)], .ff, [], [], some (2 * len = 2 * len ∧ 4 < k ∧ kk = k ∧ isSl f kk)⟩ S v) = (
(decide (40 < (↑len : Int)) = true → True ∧ True) ∧ (decide (40 < (↑len : Int)) = false → (decide (4 < (↑k : Int)) = true → True ∧ True) ∧ (decide (4 < (↑k : Int)) = false → (2 * len = 2 * len ∧ len ≤
1000000) ∧ ((!geoAll (2 * len) g) = true → True ∧ True) ∧ ((!geoAll (2 * len) g) = false → False)))) := by kernel_rfl
theorem isPog : ConOk Tryz.prog 46 (conR isPogC) := by
 refine con_of_vc gzfU Tryz.func46 rfl (by kernel_rfl) fun args => ?_
 unfold isPogC
 split
 · rename_i n len h k
   intro o0
   show RdM.All _ (match intsFrom .i64 o0.c with | some (m, g) => _ | none => _) _
   split
   · rename_i m0 g hm0
     intro o1
     show RdM.All _ (match genOf o1.c with | some (kk, f) => _ | none => _) _
     split
     · rename_i kk f hm1
       intro ho
       replace ho : m0 = 2 * len ∧ 4 < k ∧ kk = k ∧ isSl f kk := ho
       obtain ⟨hsz0, ho⟩ := ho
       subst hsz0
       refine ⟨?_, _, _, (vc_isPog len k kk f g).mpr ?_⟩
       · refine okFlag_mk rfl ⟨?_, ⟨trivial, (contR_ints hm0).1, ⟨fun _ _ => rfl, genOf_spec hm1 ho.2.2, trivial⟩⟩⟩
         simp [eqvRL, eqvR, sgSig, fsts, nth, sameN_self]
       · obtain ⟨h4, rfl, hs⟩ := ho
         simp
         omega
     · trivial
   · trivial
 · trivial
end Go.Proofs.Tryz.Sx

namespace Go.Sx
open Go.RowKit
def flatCn : Cont → Cont
 | .upto _ l => .cells l
 | c => c
def flatO (o : Ob) : Ob := ⟨o.rw, o.elem, flatCn o.c, o.es⟩
def flatRd (rd : Nm → Option Ob) (n : Nm) : Option Ob := match rd n with
 | some o => some (flatO o)
 | none => none
def lenIs (i n : Nat) : List SV → Prop
 | [] => n = i
 | _ :: r => lenIs (i + 1) n r
theorem lenIs_spec {n : Nat} : ∀ {l : List SV} {i : Nat}, lenIs i n l → n = i + l.length
 | [], _, h => h
 | _ :: r, i, h => by have := lenIs_spec (l := r) h; simp; omega
def wholeO (o : Ob) (p : Option Prop) : Option Prop := match o.c with
 | .upto m l => andP p (lenIs 0 m l)
 | _ => p
def wholes (rd : Nm → Option Ob) (p : Option Prop) : List Nm → Option Prop
 | [] => p
 | n :: r => match rd n with
   | some o => wholes rd (wholeO o p) r
   | none => wholes rd p r
def flatC (c : Con) : Con := fun args rd nm => match c args (flatRd rd) nm with
 | some e => some ⟨e.val, e.wr, e.news, e.rds, wholes rd e.obl e.rds⟩
 | none => none
theorem wholeO_ok {o : Ob} {p : Option Prop} (h : okP (wholeO o p)) : okP p ∧ ∀ m l, o.c = .upto m l → m = l.length := by
 unfold wholeO at h
 split at h
 · rename_i m l hc
   obtain ⟨h1, h2⟩ := andP_ok h
   refine ⟨h1, fun m' l' e => ?_⟩
   rw [hc] at e
   injection e with e1 e2
   subst e1; subst e2
   have := lenIs_spec h2
   omega
 · rename_i hno
   exact ⟨h, fun m l e => absurd e (hno m l)⟩
theorem wholes_ok {rd : Nm → Option Ob} : ∀ {l : List Nm} {p : Option Prop}, okP (wholes rd p l) → okP p ∧ ∀ n ∈ l, ∀ o, rd n = some o → ∀ m l, o.c = .upto m l → m = l.length
 | [], p, h => ⟨h, fun n hn => by simp at hn⟩
 | n :: r, p, h => by
   unfold wholes at h
   split at h
   · rename_i o ho
     obtain ⟨h1, h2⟩ := wholes_ok h
     obtain ⟨h3, h4⟩ := wholeO_ok h1
     refine ⟨h3, fun k hk o' ho' => ?_⟩
     rcases List.mem_cons.1 hk with rfl | hk
     · rw [ho] at ho'; cases ho'; exact h4
     · exact h2 k hk o' ho'
   · rename_i ho
     obtain ⟨h1, h2⟩ := wholes_ok h
     refine ⟨h1, fun k hk o' ho' => ?_⟩
     rcases List.mem_cons.1 hk with rfl | hk
     · rw [ho] at ho'; cases ho'
     · exact h2 k hk o' ho'
theorem wholes_loc {rd rd' : Nm → Option Ob} : ∀ {l : List Nm} {p : Option Prop}, (∀ n ∈ l, rd' n = rd n) → wholes rd' p l = wholes rd p l
 | [], _, _ => rfl
 | n :: r, p, h => by
   unfold wholes
   rw [h n List.mem_cons_self]
   cases rd n with
   | some o => exact wholes_loc fun k hk => h k (List.mem_cons_of_mem _ hk)
   | none => exact wholes_loc fun k hk => h k (List.mem_cons_of_mem _ hk)
section
variable {W0 : World} {Fr : Nat → Prop} {U : Nm → Prop} {H K : Heap} {ρ : Rho} {w : World}
def Alike (o o' : Ob) : Prop := o.rw = o'.rw ∧ o.elem = o'.elem ∧ o.es = o'.es ∧ o.c.size = o'.c.size ∧ ∀ j, j < o.c.size → o.c.at j = o'.c.at j
theorem Alike.refl (o : Ob) : Alike o o := ⟨rfl, rfl, rfl, rfl, fun _ _ => rfl⟩
theorem Alike.symm {o o' : Ob} (h : Alike o o') : Alike o' o := ⟨h.1.symm, h.2.1.symm, h.2.2.1.symm, h.2.2.2.1.symm, fun j hj => (h.2.2.2.2 j (by rw [h.2.2.2.1]; exact hj)).symm⟩
theorem OSat.alike {o o' : Ob} (h : Alike o o') {p : Option (Nat × Nat × Nat)} (hs : OSat w ρ o p) : OSat w ρ o' p := by
 obtain ⟨h1, h2, h3, h4, h5⟩ := h
 cases p with
 | none => show o'.c.size = 0; rw [← h4]; exact hs
 | some q =>
   obtain ⟨b, off, cp⟩ := q
   obtain ⟨a1, a2, a3⟩ := hs
   refine ⟨fun i hi => ?_, fun hr => ?_, fun hr => a3 (by rw [h4]; exact hr)⟩
   · rw [← h5 i (by rw [h4]; exact hi)]; exact a1 i (by rw [h4]; exact hi)
   · obtain ⟨b1, arr, b2, b3, b4, b5⟩ := a2 (by rw [h1]; exact hr)
     exact ⟨b1, arr, by rw [← h2]; exact b2, by rw [← h4]; exact b3, by rw [← h3]; exact b4, b5⟩
theorem HSat.alike (h : HSat W0 Fr U H ρ w) (hk : ∀ n o', look K n = some o' → ∃ o, look H n = some o ∧ Alike o o') : HSat W0 Fr U K ρ w :=
 { h with
   used := fun n o hn => by obtain ⟨o1, h1, _⟩ := hk n o hn; exact h.used n o1 h1
   bd := fun n o hn => by
     obtain ⟨o1, h1, ha⟩ := hk n o hn
     intro j hj
     have hj' : j < o1.c.size := by rw [ha.2.2.2.1]; exact hj
     rw [← ha.2.2.2.2 j hj']
     exact h.bd n o1 h1 j hj'
   obj := fun n o hn => by obtain ⟨o1, h1, ha⟩ := hk n o hn; exact (h.obj n o1 h1).alike ha
   inj := fun n m o o' p q hn hm hne hr hr2 hp hq => by
     obtain ⟨o1, h1, ha⟩ := hk n o hn
     obtain ⟨o2, h2, hb⟩ := hk m o' hm
     exact h.inj n m o1 o2 p q h1 h2 hne (by rw [ha.1]; exact hr) (by rcases hr2 with hr2 | hr2; · exact .inl (by rw [hb.1]; exact hr2)
                                                                      · exact .inr (by rw [hb.2.2.2.1]; exact hr2)) hp hq
   free := fun n o p hn hr hp => by
     obtain ⟨o1, h1, ha⟩ := hk n o hn
     exact h.free n o1 p h1 (by rw [ha.1]; exact hr) hp }
def flats (H : Heap) : List Nm → Heap
 | [] => H
 | n :: r => match look H n with
   | some o => (n, flatO o) :: flats H r
   | none => flats H r
theorem look_flats : ∀ (l : List Nm) (n : Nm), look (flats H l) n = if n ∈ l then flatRd (look H) n else look H n
 | [], n => by simp [flats]
 | m :: r, n => by
   have ih := look_flats r n
   unfold flats
   cases hm : look H m with
   | some o =>
     simp only [look_cons]
     by_cases e : m = n
     · subst e
       simp [flatRd, hm]
     · rw [if_neg e, ih]
       have : (n ∈ m :: r) ↔ n ∈ r := by simp [Ne.symm e]
       simp only [this]
   | none =>
     simp only
     rw [ih]
     by_cases e : m = n
     · subst e
       simp [flatRd, hm]
     · have : (n ∈ m :: r) ↔ n ∈ r := by simp [Ne.symm e]
       simp only [this]
theorem flat_alike {o : Ob} (h : ∀ m l, o.c = .upto m l → m = l.length) : Alike o (flatO o) := by
 obtain ⟨rw', el, c, es⟩ := o
 refine ⟨rfl, rfl, rfl, ?_⟩
 cases c with
 | upto m l =>
   have := h m l rfl
   exact ⟨this, fun j _ => rfl⟩
 | _ => exact ⟨rfl, fun j _ => rfl⟩
theorem alike_flats {l : List Nm} (h : ∀ n ∈ l, ∀ o, look H n = some o → ∀ m l, o.c = .upto m l → m = l.length) :
   (∀ n o', look (flats H l) n = some o' → ∃ o, look H n = some o ∧ Alike o o') ∧ (∀ n o, look H n = some o → ∃ o', look (flats H l) n = some o' ∧ Alike o' o) := by
 refine ⟨fun n o' hn => ?_, fun n o hn => ?_⟩
 · rw [look_flats] at hn
   split at hn
   · rename_i hm
     unfold flatRd at hn
     split at hn
     · rename_i o ho
       cases hn
       exact ⟨o, ho, flat_alike (h n hm o ho)⟩
     · cases hn
   · exact ⟨o', hn, Alike.refl _⟩
 · rw [look_flats]
   split
   · rename_i hm
     exact ⟨flatO o, by simp [flatRd, hn], (flat_alike (h n hm o hn)).symm⟩
   · exact ⟨o, hn, Alike.refl _⟩
end
theorem ConOk.flat {P : Program} {f : Nat} {c : Con} (h : ConOk P f c) : ConOk P f (flatC c) where
 loc := by
   intro args rd rd' nm e hc hr
   unfold flatC at *
   split at hc
   · rename_i e1 h1
     simp only [Option.some.injEq] at hc
     subst hc
     have h2 : ∀ n ∈ e1.rds, flatRd rd' n = flatRd rd n := fun n hn => by unfold flatRd; rw [hr n hn]
     simp only [h.loc h1 h2, wholes_loc hr]
   · cases hc
 calls := by
   intro W0 Fr U H ρ w nm args e hH hbd hn hc ho
   unfold flatC at hc
   split at hc
   · rename_i e1 h1
     simp only [Option.some.injEq] at hc
     subst hc
     obtain ⟨ho1, hw⟩ := wholes_ok ho
     obtain ⟨ha, hb⟩ := alike_flats (H := H) hw
     have hH2 : HSat W0 Fr U (flats H e1.rds) ρ w := hH.alike ha
     have h2 : c args (look (flats H e1.rds)) nm = some e1 := h.loc h1 fun n hn => by rw [look_flats, if_pos hn]
     refine (h.calls hH2 hbd hn h2 ho1).mono ?_
     rintro en w' ⟨ρ', h3, h4, h5⟩
     refine ⟨ρ', h3, h4.alike fun n o' hn' => ?_, h5⟩
     rw [look_append] at hn' ⊢
     split at hn'
     · rename_i x hx
       simp only [Option.some.injEq] at hn'
       subst hn'
       exact ⟨x, by rw [hx], Alike.refl _⟩
     · rename_i hx
       rw [hx]
       simp only
       rw [look_append] at hn' ⊢
       split at hn'
       · rename_i y hy
         simp only [Option.some.injEq] at hn'
         subst hn'
         exact ⟨y, by rw [hy], Alike.refl _⟩
       · rename_i hy
         rw [hy]
         simp only
         exact hb n o' hn'
   · cases hc
end Go.Sx
namespace Go.Sx
open Go.RowKit
def addR (n : Nm) : Option Eff → Option Eff
 | some e => some ⟨e.val, e.wr, e.news, n :: e.rds, e.obl⟩
 | none => none
def kindC (q : Cont → Bool) (a b : Con) : Con := fun args rd nm => match args with
 | .ptr n _ :: _ => match rd n with
   | some o => match q o.c with
     | true => addR n (a args rd nm)
     | false => addR n (b args rd nm)
   | none => none
 | _ => none
theorem ConOk.kind {P : Program} {f : Nat} {a b : Con} {q : Cont → Bool} (ha : ConOk P f a) (hb : ConOk P f b) : ConOk P f (kindC q a b) where
 calls := by
   intro W0 Fr U H ρ w nm args e hH hbd hn hc ho
   unfold kindC at hc
   split at hc
   · split at hc
     · split at hc
       · cases he : a _ (look H) nm with
         | none => rw [he] at hc; cases hc
         | some e1 => rw [he] at hc; cases hc; exact ha.calls (e := e1) hH hbd hn he ho
       · cases he : b _ (look H) nm with
         | none => rw [he] at hc; cases hc
         | some e1 => rw [he] at hc; cases hc; exact hb.calls (e := e1) hH hbd hn he ho
     · cases hc
   · cases hc
 loc := by
   intro args rd rd' nm e hc hr
   unfold kindC at hc ⊢
   split at hc
   · rename_i n _ _
     split at hc
     · rename_i o hno
       split at hc
       · rename_i hq
         cases he : a _ rd nm with
         | none => rw [he] at hc; cases hc
         | some e1 =>
           rw [he] at hc; cases hc
           simp only [hr _ List.mem_cons_self, hno, hq, ha.loc he (fun m hm => hr m (List.mem_cons_of_mem _ hm)), addR]
       · rename_i hq
         cases he : b _ rd nm with
         | none => rw [he] at hc; cases hc
         | some e1 =>
           rw [he] at hc; cases hc
           simp only [hr _ List.mem_cons_self, hno, hq, hb.loc he (fun m hm => hr m (List.mem_cons_of_mem _ hm)), addR]
     · cases hc
   · cases hc
end Go.Sx
namespace Go.Sx
open Go.RowKit
def kindS (sel : List SV → Option Nm) (q : Cont → Bool) (a b : Con) : Con := fun args rd nm => match sel args with
 | some n => match rd n with
   | some o => match q o.c with
     | true => addR n (a args rd nm)
     | false => addR n (b args rd nm)
   | none => none
 | none => none
theorem ConOk.kindS {P : Program} {f : Nat} {a b : Con} {sel : List SV → Option Nm} {q : Cont → Bool} (ha : ConOk P f a) (hb : ConOk P f b) : ConOk P f (kindS sel q a b) where
 calls := by
   intro W0 Fr U H ρ w nm args e hH hbd hn hc ho
   unfold Go.Sx.kindS at hc
   split at hc
   · split at hc
     · split at hc
       · cases he : a args (look H) nm with
         | none => rw [he] at hc; cases hc
         | some e1 => rw [he] at hc; cases hc; exact ha.calls (e := e1) hH hbd hn he ho
       · cases he : b args (look H) nm with
         | none => rw [he] at hc; cases hc
         | some e1 => rw [he] at hc; cases hc; exact hb.calls (e := e1) hH hbd hn he ho
     · cases hc
   · cases hc
 loc := by
   intro args rd rd' nm e hc hr
   unfold Go.Sx.kindS at hc ⊢
   split at hc
   · rename_i n hs
     split at hc
     · rename_i o hno
       split at hc
       · rename_i hq
         cases he : a args rd nm with
         | none => rw [he] at hc; cases hc
         | some e1 =>
           rw [he] at hc; cases hc
           simp only [hr _ List.mem_cons_self, hno, hq, ha.loc he (fun m hm => hr m (List.mem_cons_of_mem _ hm)), addR]
       · rename_i hq
         cases he : b args rd nm with
         | none => rw [he] at hc; cases hc
         | some e1 =>
           rw [he] at hc; cases hc
           simp only [hr _ List.mem_cons_self, hno, hq, hb.loc he (fun m hm => hr m (List.mem_cons_of_mem _ hm)), addR]
     · cases hc
   · cases hc
end Go.Sx

namespace Go.Proofs.Tryz.Sx
open Go Go.Sx Go.Proofs Go.Fl Go.Geo
set_option maxRecDepth 100000
set_option maxHeartbeats 4000000
def pres (k j n : Nat) : Nat := if j < k then n else 0
noncomputable def nPoUC : List SV → RdM
 | [.slcc n len, .slcc h k1, .ptr o 0] => .read n fun o0 => (match fltsFrom .f64 o0.c with
   | some (m0, g) => .read h fun o1 => (match holU o1.c with
   | some (k, q0, l0, q1, l1, q2, l2, q3, l3) => .read q0 fun o2 => (match fltsFrom .f64 o2.c with
   | some (m2, g0) => .read q1 fun o3 => (match fltsFrom .f64 o3.c with
   | some (m3, g1) => .read q2 fun o4 => (match fltsFrom .f64 o4.c with
   | some (m4, g2) => .read q3 fun o5 => (match fltsFrom .f64 o5.c with
   | some (m5, g3) => .read o fun o6 => (match optOf o6.c with
   | some (km, mm) => .ret ⟨[.slcc 0 len, .slcc 1 k, .ptr 6 0], [(0, ⟨false, 100, .flts .f64 m0 g, 0⟩), (1, ⟨false, 118, .upto k [.slcc 2 l0, .slcc 3 l1, .slcc 4 l2, .slcc 5 l3], 0⟩), (2, ⟨false, 100, .flts .f64 m2 g0, 0⟩), (3, ⟨false, 100, .flts .f64 m3 g1, 0⟩), (4, ⟨false, 100, .flts .f64 m4 g2, 0⟩), (5, ⟨false, 100, .flts .f64 m5 g3, 0⟩), (6, ⟨false, 148, optC km mm, 0⟩)], .ptr 7 0, [], [(7, ⟨true, 137, .cells [.ifc 157 (.ptr 9 0), .slcc 8 k], 0⟩), (8, ⟨true, 106, .upto k [.ifc 157 (.ptr 11 0), .ifc 157 (.ptr 13 0), .ifc 157 (.ptr 15 0), .ifc 157 (.ptr 17 0)], 1⟩), (9, ⟨true, 150, .cells (rectS len true g 10 0), 0⟩), (10, ⟨true, 100, .flts .f64 (2 * len) g, 2⟩), (11, ⟨true, 150, .upto (pres k 0 10) (rectS l0 true g0 12 0), 0⟩), (12, ⟨true, 100, .flts .f64 (2 * l0) g0, 2⟩), (13, ⟨true, 150, .upto (pres k 1 10) (rectS l1 true g1 14 0), 0⟩), (14, ⟨true, 100, .flts .f64 (2 * l1) g1, 2⟩), (15, ⟨true, 150, .upto (pres k 2 10) (rectS l2 true g2 16 0), 0⟩), (16, ⟨true, 100, .flts .f64 (2 * l2) g2, 2⟩), (17, ⟨true, 150, .upto (pres k 3 10) (rectS l3 true g3 18 0), 0⟩), (18, ⟨true, 100, .flts .f64 (2 * l3) g3, 2⟩)], some (k = k1 ∧ m0 = 2 * len ∧ m2 = 2 * l0 ∧ m3 = 2 * l1 ∧ m4 = 2 * l2 ∧ m5 = 2 * l3 ∧ hab k l0 l1 l2 l3 ∧ km = 0 ∧ (len ≤ 1000000 ∧ (ppBig len true = true → ppOk g len)) ∧ (l0 ≤ 1000000 ∧ (ppBig l0 true = true → ppOk g0 l0)) ∧ (l1 ≤ 1000000 ∧ (ppBig l1 true = true → ppOk g1 l1)) ∧ (l2 ≤ 1000000 ∧ (ppBig l2 true = true → ppOk g2 l2)) ∧ (l3 ≤ 1000000 ∧ (ppBig l3 true = true → ppOk g3 l3)))⟩
   | none => .fail)
   | none => .fail)
   | none => .fail)
   | none => .fail)
   | none => .fail)
   | none => .fail)
   | none => .fail)
 | _ => .fail
theorem vc_nPoU (len : Nat) (km mm : Int) (k l0 l1 l2 l3 : Nat) (_ _ _ _ : Nm)  (g : Nat → Nat) (g0 : Nat → Nat) (g1 : Nat → Nat) (g2 : Nat → Nat) (g3 : Nat → Nat) : runA GNP 7 [(6, .unr [⟨Nat, fun _ => ⟨44, [(1, .slcc 1 k), (2, .ptr 6 0), (7, .ptr 7 0), (26, .int .i64 k), (27, .int .i64 0)], [(1, ⟨false, 118, .upto k [.slcc 2 l0, .slcc 3 l1, .slcc 4 l2, .slcc 5 l3], 0⟩), (2, ⟨false, 100, .flts .f64 (2 * l0) g0, 0⟩), (3, ⟨false, 100, .flts .f64 (2 * l1) g1, 0⟩), (4, ⟨false, 100, .flts .f64 (2 * l2) g2, 0⟩), (5, ⟨false, 100, .flts .f64 (2 * l3) g3, 0⟩), (6, ⟨false, 148, optC km mm, 0⟩), (7, ⟨true, 137, .cells [.ifc 157 (.ptr 9 0), .slcc 8 k], 0⟩), (8, ⟨true, 106, .upto k [.nili, .nili, .nili, .nili], 1⟩), (9, ⟨true, 150, .cells (rectS len true g 10 0), 0⟩), (10, ⟨true, 100, .flts .f64 (2 * len) g, 2⟩)], 11⟩, fun _ => 0 ≤ k, fun _ => 0⟩, ⟨Nat, fun _ => ⟨44, [(1, .slcc 1 k), (2, .ptr 6 0), (7, .ptr 7 0), (26, .int .i64 k), (27, .int .i64 1)], [(1, ⟨false, 118, .upto k [.slcc 2 l0, .slcc 3 l1, .slcc 4 l2, .slcc 5 l3], 0⟩), (2, ⟨false, 100, .flts .f64 (2 * l0) g0, 0⟩), (3, ⟨false, 100, .flts .f64 (2 * l1) g1, 0⟩), (4, ⟨false, 100, .flts .f64 (2 * l2) g2, 0⟩), (5, ⟨false, 100, .flts .f64 (2 * l3) g3, 0⟩), (6, ⟨false, 148, optC km mm, 0⟩), (7, ⟨true, 137, .cells [.ifc 157 (.ptr 9 0), .slcc 8 k], 0⟩), (8, ⟨true, 106, .upto k [.ifc 157 (.ptr 11 0), .nili, .nili, .nili], 1⟩), (9, ⟨true, 150, .cells (rectS len true g 10 0), 0⟩), (10, ⟨true, 100, .flts .f64 (2 * len) g, 2⟩), (11, ⟨true, 150, .cells (rectS l0 true g0 12 0), 0⟩), (12, ⟨true, 100, .flts .f64 (2 * l0) g0, 2⟩)], 13⟩, fun _ => 1 ≤ k, fun _ => 0⟩, ⟨Nat, fun _ => ⟨44, [(1, .slcc 1 k), (2, .ptr 6 0), (7, .ptr 7 0), (26, .int .i64 k), (27, .int .i64 2)], [(1, ⟨false, 118, .upto k [.slcc 2 l0, .slcc 3 l1, .slcc 4 l2, .slcc 5 l3], 0⟩), (2, ⟨false, 100, .flts .f64 (2 * l0) g0, 0⟩), (3, ⟨false, 100, .flts .f64 (2 * l1) g1, 0⟩), (4, ⟨false, 100, .flts .f64 (2 * l2) g2, 0⟩), (5, ⟨false, 100, .flts .f64 (2 * l3) g3, 0⟩), (6, ⟨false, 148, optC km mm, 0⟩), (7, ⟨true, 137, .cells [.ifc 157 (.ptr 9 0), .slcc 8 k], 0⟩), (8, ⟨true, 106, .upto k [.ifc 157 (.ptr 11 0), .ifc 157 (.ptr 13 0), .nili, .nili], 1⟩), (9, ⟨true, 150, .cells (rectS len true g 10 0), 0⟩), (10, ⟨true, 100, .flts .f64 (2 * len) g, 2⟩), (11, ⟨true, 150, .cells (rectS l0 true g0 12 0), 0⟩), (12, ⟨true, 100, .flts .f64 (2 * l0) g0, 2⟩), (13, ⟨true, 150, .cells (rectS l1 true g1 14 0), 0⟩), (14, ⟨true, 100, .flts .f64 (2 * l1) g1, 2⟩)], 15⟩, fun _ => 2 ≤ k, fun _ => 0⟩, ⟨Nat, fun _ => ⟨44, [(1, .slcc 1 k), (2, .ptr 6 0), (7, .ptr 7 0), (26, .int .i64 k), (27, .int .i64 3)], [(1, ⟨false, 118, .upto k [.slcc 2 l0, .slcc 3 l1, .slcc 4 l2, .slcc 5 l3], 0⟩), (2, ⟨false, 100, .flts .f64 (2 * l0) g0, 0⟩), (3, ⟨false, 100, .flts .f64 (2 * l1) g1, 0⟩), (4, ⟨false, 100, .flts .f64 (2 * l2) g2, 0⟩), (5, ⟨false, 100, .flts .f64 (2 * l3) g3, 0⟩), (6, ⟨false, 148, optC km mm, 0⟩), (7, ⟨true, 137, .cells [.ifc 157 (.ptr 9 0), .slcc 8 k], 0⟩), (8, ⟨true, 106, .upto k [.ifc 157 (.ptr 11 0), .ifc 157 (.ptr 13 0), .ifc 157 (.ptr 15 0), .nili], 1⟩), (9, ⟨true, 150, .cells (rectS len true g 10 0), 0⟩), (10, ⟨true, 100, .flts .f64 (2 * len) g, 2⟩), (11, ⟨true, 150, .cells (rectS l0 true g0 12 0), 0⟩), (12, ⟨true, 100, .flts .f64 (2 * l0) g0, 2⟩), (13, ⟨true, 150, .cells (rectS l1 true g1 14 0), 0⟩), (14, ⟨true, 100, .flts .f64 (2 * l1) g1, 2⟩), (15, ⟨true, 150, .cells (rectS l2 true g2 16 0), 0⟩), (16, ⟨true, 100, .flts .f64 (2 * l2) g2, 2⟩)], 17⟩, fun _ => 3 ≤ k, fun _ => 0⟩, ⟨Nat, fun _ => ⟨44, [(1, .slcc 1 k), (2, .ptr 6 0), (7, .ptr 7 0), (26, .int .i64 k), (27, .int .i64 4)], [(1, ⟨false, 118, .upto k [.slcc 2 l0, .slcc 3 l1, .slcc 4 l2, .slcc 5 l3], 0⟩), (2, ⟨false, 100, .flts .f64 (2 * l0) g0, 0⟩), (3, ⟨false, 100, .flts .f64 (2 * l1) g1, 0⟩), (4, ⟨false, 100, .flts .f64 (2 * l2) g2, 0⟩), (5, ⟨false, 100, .flts .f64 (2 * l3) g3, 0⟩), (6, ⟨false, 148, optC km mm, 0⟩), (7, ⟨true, 137, .cells [.ifc 157 (.ptr 9 0), .slcc 8 k], 0⟩), (8, ⟨true, 106, .upto k [.ifc 157 (.ptr 11 0), .ifc 157 (.ptr 13 0), .ifc 157 (.ptr 15 0), .ifc 157 (.ptr 17 0)], 1⟩), (9, ⟨true, 150, .cells (rectS len true g 10 0), 0⟩), (10, ⟨true, 100, .flts .f64 (2 * len) g, 2⟩), (11, ⟨true, 150, .cells (rectS l0 true g0 12 0), 0⟩), (12, ⟨true, 100, .flts .f64 (2 * l0) g0, 2⟩), (13, ⟨true, 150, .cells (rectS l1 true g1 14 0), 0⟩), (14, ⟨true, 100, .flts .f64 (2 * l1) g1, 2⟩), (15, ⟨true, 150, .cells (rectS l2 true g2 16 0), 0⟩), (16, ⟨true, 100, .flts .f64 (2 * l2) g2, 2⟩), (17, ⟨true, 150, .cells (rectS l3 true g3 18 0), 0⟩), (18, ⟨true, 100, .flts .f64 (2 * l3) g3, 2⟩)], 19⟩, fun _ => 4 ≤ k, fun _ => 0⟩])] [] (codeOf Tryz.f91) (init Tryz.f91.ntmps [.slcc 0 len, .slcc 1 k, .ptr 6 0] [(0, ⟨false, 100, .flts .f64 (2 * len) g, 0⟩), (1, ⟨false, 118, .upto k [.slcc 2 l0, .slcc 3 l1, .slcc 4 l2, .slcc 5 l3], 0⟩), (2, ⟨false, 100, .flts .f64 (2 * l0) g0, 0⟩), (3, ⟨false, 100, .flts .f64 (2 * l1) g1, 0⟩), (4, ⟨false, 100, .flts .f64 (2 * l2) g2, 0⟩), (5, ⟨false, 100, .flts .f64 (2 * l3) g3, 0⟩), (6, ⟨false, 148, optC km mm, 0⟩)] 7) (endK GNP.E.T Tryz.f91.results.toList fun S v => postP 7 ⟨[.slcc 0 len, .slcc 1 k, .ptr 6 0], [(0, ⟨false, 100, .flts .f64 (2 * len) g, 0⟩), (1, ⟨false, 118, .upto k [.slcc 2 l0, .slcc 3 l1, .slcc 4 l2, .slcc 5 l3], 0⟩), (2, ⟨false, 100, .flts .f64 (2 * l0) g0, 0⟩), (3, ⟨false, 100, .flts .f64 (2 * l1) g1, 0⟩), (4, ⟨false, 100, .flts .f64 (2 * l2) g2, 0⟩), (5, ⟨false, 100, .flts .f64 (2 * l3) g3, 0⟩), (6, ⟨false, 148, optC km mm, 0⟩)], .ptr 7 0, [], [(7, ⟨true, 137, .cells [.ifc 157 (.ptr 9 0), .slcc 8 k], 0⟩), (8, ⟨true, 106, .upto k [.ifc 157 (.ptr 11 0), .ifc 157 (.ptr 13 0), .ifc 157 (.ptr 15 0), .ifc 157 (.ptr 17 0)], 1⟩), (9, ⟨true, 150, .cells (rectS len true g 10 0), 0⟩), (10, ⟨true, 100, .flts .f64 (2 * len) g, 2⟩), (11, ⟨true, 150, .upto (pres k 0 10) (rectS l0 true g0 12 0), 0⟩), (12, ⟨true, 100, .flts .f64 (2 * l0) g0, 2⟩), (13, ⟨true, 150, .upto (pres k 1 10) (rectS l1 true g1 14 0), 0⟩), (14, ⟨true, 100, .flts .f64 (2 * l1) g1, 2⟩), (15, ⟨true, 150, .upto (pres k 2 10) (rectS l2 true g2 16 0), 0⟩), (16, ⟨true, 100, .flts .f64 (2 * l2) g2, 2⟩), (17, ⟨true, 150, .upto (pres k 3 10) (rectS l3 true g3 18 0), 0⟩), (18, ⟨true, 100, .flts .f64 (2 * l3) g3, 2⟩)], some (k = k ∧ 2 * len = 2 * len ∧ 2 * l0 = 2 * l0 ∧ 2 * l1 = 2 * l1 ∧ 2 * l2 = 2 * l2 ∧ 2 * l3 = 2 * l3 ∧ hab k l0 l1 l2 l3 ∧ km = 0 ∧ (len ≤ 1000000 ∧ (ppBig len true = true → ppOk g len)) ∧ (l0 ≤ 1000000 ∧ (ppBig l0 true = true → ppOk g0 l0)) ∧ (l1 ≤ 1000000 ∧ (ppBig l1 true = true → ppOk g1 l1)) ∧ (l2 ≤ 1000000 ∧ (ppBig l2 true = true → ppOk g2 l2)) ∧ (l3 ≤ 1000000 ∧ (ppBig l3 true = true → ppOk g3 l3)))⟩ S v) = (
(2 * len = 2 * len ∧ km = (0 : Int) ∧ len ≤ 1000000 ∧ (ppBig len true = true → ppOk g len)) ∧ (decide (0 < (↑k : Int)) = true → ((↑k : Int) = (↑k : Int) ∧ 0 ≤ (↑k : Int) ∧
(↑k : Int) ≤ 9223372036854775807 ∧ (↑k : Int) * 16 ≤ (140737488355328 : Int)) ∧ (∃ (_ : Nat), 0 ≤ k ∧ ((True ∧ k = k) ∧ (True ∧ 0 = 0) ∧ (True ∧ 0 = 0) ∧ (↑k : Int) = (↑k : Int) ∧ (0 : Int) = (0
: Int) ∧ True) ∧ True ∧ (k = k ∧ (0 < k → True ∧ l0 = l0) ∧ (1 < k → True ∧ l1 = l1) ∧ (2 < k → True ∧ l2 = l2) ∧ (3 < k → True ∧ l3 = l3) ∧ True) ∧ True ∧ (2 * l0 ≤ 2 * l0 ∧ ∀ (i : Nat), i < 2
* l0 → g0 i = g0 i) ∧ True ∧ (2 * l1 ≤ 2 * l1 ∧ ∀ (i : Nat), i < 2 * l1 → g1 i = g1 i) ∧ True ∧ (2 * l2 ≤ 2 * l2 ∧ ∀ (i : Nat), i < 2 * l2 → g2 i = g2 i) ∧ True ∧ (2 * l3 ≤ 2 * l3 ∧ ∀ (i
: Nat), i < 2 * l3 → g3 i = g3 i) ∧ True ∧ (km = km ∧ mm = mm ∧ True) ∧ True ∧ (137 = 137 ∧ 0 = 0 ∧ (True ∧ 0 = 0) ∧ (True ∧ Int.toNat (↑k : Int) = k) ∧ True) ∧ True ∧ (106 = 106
∧ 1 = 1 ∧ k ≤ Int.toNat (↑k : Int) ∧ (0 < k → True) ∧ (1 < k → True) ∧ (2 < k → True) ∧ (3 < k → True) ∧ k ≤ 4) ∧ True ∧ (150 = 150 ∧ 0 = 0 ∧ true = true ∧
(ppBig len true && fGt .f64 (cwF g len len) 0) = (ppBig len true && fGt .f64 (cwF g len len) 0) ∧ (ppBig len true && !Prod.snd
(dcF g len len)) = (ppBig len true && !(dcF g len len).2) ∧ (0 : Int) = 0 ∧ True ∧ pick (ppBig len true) (rlo g 0 len)
= pick (ppBig len true) (rlo g 0 len) ∧ pick (ppBig len true) (rlo g 1 len) = pick (ppBig
 len true) (rlo g 1 len) ∧ pick (ppBig len true) (rhi g 0 len) = pick (ppBig len true) (rhi g 0 len)
∧ pick (ppBig len true) (rhi g 1 len) = pick (ppBig len true) (rhi g 1 len) ∧ (True ∧ len = len) ∧ True) ∧ True ∧ (100
= 100 ∧ 2 = 2 ∧ 2 * len ≤ 2 * len ∧ ∀ (i : Nat), i < 2 * len → g i = g i) ∧ True) ∧ (∀ (_ : Nat), 0 ≤ k → (decide (0 < (↑k : Int)) = true → (((0 : Int) ≤ 0 ∧ 0 < (↑k :
 Int)) ∧ 1 ≤ k) ∧ 1 ≤ k ∧ (2 * l0 = 2 * l0 ∧ km = (0 : Int) ∧ l0 ≤ 1000000 ∧ (ppBig l0 true = true → ppOk g0 l0)) ∧ (((0 : Int) ≤ 0 ∧ 0 < (↑k : Int)) ∧ 1 ≤ k) ∧ 1 ≤ k ∧ true = true ∧ ∃ (_ : Nat), 1 ≤ k ∧ ((True ∧ k = k) ∧ (True ∧ 0 = 0) ∧ (True ∧ 0 = 0) ∧ (↑k : Int) = (↑k : Int) ∧ (1 : Int) = 1 ∧ True) ∧ True ∧ (k = k ∧ (0 < k → True
∧ l0 = l0) ∧ (1 < k → True ∧ l1 = l1) ∧ (2 < k → True ∧ l2 = l2) ∧ (3 < k → True ∧ l3 = l3) ∧ True) ∧ True ∧ (2 * l0 ≤ 2 * l0 ∧ ∀ (i : Nat), i < 2 * l0 → g0 i = g0 i) ∧ True ∧ (2 * l1 ≤ 2 * l1 ∧ ∀ (i : Nat), i < 2 * l1 → g1 i = g1 i) ∧ True ∧ (2 * l2 ≤ 2 * l2 ∧ ∀ (i : Nat), i < 2 * l2 → g2 i = g2 i) ∧ True ∧ (2 * l3 ≤ 2 * l3 ∧ ∀ (i : Nat), i < 2 * l3 → g3 i = g3 i) ∧ True ∧
(km = km ∧ mm = mm ∧ True) ∧ True ∧ (137 = 137 ∧ 0 = 0 ∧ (True ∧ 0 = 0) ∧ (True ∧ k = k) ∧ True) ∧ True ∧ (106 = 106 ∧ 1 = 1 ∧ k = k ∧ (0 < k → True ∧ 0 =
0) ∧ (1 < k → True) ∧ (2 < k → True) ∧ (3 < k → True) ∧ True) ∧ True ∧ (150 = 150 ∧ 0 = 0 ∧ true = true ∧ (ppBig len true && fGt .f64 (cwF g len
 len) 0) = (ppBig len true && fGt .f64 (cwF g len len) 0) ∧ (ppBig len true && !(dcF g len len).2) = (ppBig len true && !Prod.snd
(dcF g len len)) ∧ (0 : Int) = 0 ∧ True ∧ pick (ppBig len true) (rlo g 0 len) = pick (ppBig len true) (rlo g
0 len) ∧ pick (ppBig len true) (rlo g 1 len) = pick (ppBig len true) (rlo g 1 len) ∧ pick
(ppBig len true) (rhi g 0 len) = pick (ppBig len true) (rhi g 0 len) ∧ pick (ppBig len true)
(rhi g 1 len) = pick (ppBig len true) (rhi g 1 len) ∧ (True ∧ len = len) ∧ True) ∧ True ∧ (100 = 100 ∧ 2 = 2 ∧ 2 * len ≤
2 * len ∧ ∀ (i : Nat), i < 2 * len → g i = g i) ∧ True ∧ (150 = 150 ∧ 0 = 0 ∧ true = true ∧ (ppBig l0 true && fGt .f64 (cwF g0 l0 l0) 0) =
(ppBig l0 true && fGt .f64 (cwF g0 l0 l0) 0) ∧ (ppBig l0 true && !(dcF g0 l0 l0).2) = (ppBig l0 true && !(dcF g0
 l0 l0).2) ∧ (0 : Int) = 0 ∧ True ∧ pick (ppBig l0 true) (rlo g0 0 l0) = pick (ppBig l0 true) (rlo g0 0 l0) ∧
 pick (ppBig l0 true) (rlo g0 1 l0) = pick (ppBig l0 true) (rlo g0 1 l0) ∧ pick (ppBig l0
 true) (rhi g0 0 l0) = pick (ppBig l0 true) (rhi g0 0 l0) ∧ pick (ppBig l0 true) (rhi g0 1 l0) =
 pick (ppBig l0 true) (rhi g0 1 l0) ∧ (True ∧ l0 = l0) ∧ True) ∧ True ∧ (100 = 100 ∧ 2 = 2 ∧ 2 * l0 ≤ 2 * l0 ∧ ∀ (i : Nat), i < 2 *
 l0 → g0 i = g0 i) ∧ True) ∧ (decide (0 < (↑k : Int)) = false → (True ∧ 0 = 0) ∧ True ∧ (137 = 137 ∧ 0 = 0 ∧ (True ∧ 0 = 0) ∧ (True ∧ k = k) ∧ True) ∧ True ∧ (106 = 106 ∧ 1 = 1 ∧ k = k ∧ (0 < k → False) ∧ (1 < k → False) ∧ (2 < k → False) ∧ (3 < k → False) ∧ True) ∧ True ∧ (150 = 150 ∧ 0 = 0 ∧ true = true ∧ (ppBig
 len true && fGt .f64 (cwF g len len) 0) = (ppBig len true && fGt .f64 (cwF g len len) 0) ∧ (ppBig len true && !(dcF g len
 len).2) = (ppBig len true && !(dcF g len len).2) ∧ (0 : Int) = 0 ∧ True ∧ pick (ppBig len true) (rlo g 0 len) = pick
(ppBig len true) (rlo g 0 len) ∧ pick (ppBig len true) (rlo g 1 len) = pick (ppBig len true)
(rlo g 1 len) ∧ pick (ppBig len true) (rhi g 0 len) = pick (ppBig len true) (rhi g 0 len) ∧
 pick (ppBig len true) (rhi g 1 len) = pick (ppBig len true) (rhi g 1 len) ∧ (True ∧ len = len) ∧ True) ∧ True ∧ (100 =
100 ∧ 2 = 2 ∧ 2 * len ≤ 2 * len ∧ ∀ (i : Nat), i < 2 * len → g i = g i) ∧ True ∧ pres k 0 10 = 0 ∧ True ∧ 2 * l0 = 0 ∧ True ∧
 pres k 1 10 = 0 ∧ True ∧ 2 * l1 = 0 ∧ True ∧ pres k 2 10 = 0 ∧ True ∧ 2 * l2 = 0 ∧ True ∧ pres k 3 10 = 0 ∧ True ∧ 2 * l3 = 0 ∧ True)) ∧ (∀ (_ : Nat), 1 ≤ k → (decide (1 < (↑k : Int)) = true → (((0 : Int) ≤ 1 ∧ 1 < (↑k : Int)) ∧ 1 ≤ k) ∧ 2 ≤ k ∧ (2 * l1 = 2 *
 l1 ∧ km = (0 : Int) ∧ l1 ≤ 1000000 ∧ (ppBig l1 true = true → ppOk g1 l1)) ∧ (((0 : Int) ≤ 1 ∧ 1 < (↑k : Int)) ∧ 1 ≤ k) ∧ 2 ≤ k ∧ true = true ∧ ∃ (_ : Nat), 2 ≤ k ∧
((True ∧ k = k) ∧ (True ∧ 0 = 0) ∧ (True ∧ 0 = 0) ∧ (↑k : Int) = (↑k : Int) ∧ (2 : Int) = 2 ∧ True) ∧ True ∧ (k = k ∧ (0 < k → True ∧ l0 = l0) ∧ (1 < k → True ∧ l1 = l1) ∧ (2 < k → True
∧ l2 = l2) ∧ (3 < k → True ∧ l3 = l3) ∧ True) ∧ True ∧ (2 * l0 ≤ 2 * l0 ∧ ∀ (i : Nat), i < 2 * l0 → g0 i = g0 i) ∧ True ∧ (2 * l1 ≤ 2 * l1 ∧ ∀ (i : Nat), i < 2 * l1 → g1 i = g1 i) ∧ True ∧ (2 * l2 ≤ 2 * l2 ∧ ∀ (i : Nat), i < 2 * l2 → g2 i = g2 i) ∧ True ∧ (2 * l3 ≤ 2 * l3 ∧ ∀ (i : Nat), i < 2 * l3 → g3 i = g3 i) ∧ True ∧ (km = km ∧ mm = mm ∧ True) ∧ True ∧ (137 = 137 ∧ 0
= 0 ∧ (True ∧ 0 = 0) ∧ (True ∧ k = k) ∧ True) ∧ True ∧ (106 = 106 ∧ 1 = 1 ∧ k = k ∧ (0 < k → True ∧ 0 = 0) ∧ (1 < k → True ∧ 0 = 0) ∧ (2 <
 k → True) ∧ (3 < k → True) ∧ True) ∧ True ∧ (150 = 150 ∧ 0 = 0 ∧ true = true ∧ (ppBig len true && fGt .f64 (cwF g len len) 0) = (ppBig len
 true && fGt .f64 (cwF g len len) 0) ∧ (ppBig len true && !(dcF g len len).2) = (ppBig len true && !(dcF g len len).2) ∧ (0 : Int) =
(0 : Int) ∧ True ∧ pick (ppBig len true) (rlo g 0 len) = pick (ppBig len true) (rlo g 0 len) ∧ pick
(ppBig len true) (rlo g 1 len) = pick (ppBig len true) (rlo g 1 len) ∧ pick (ppBig len true)
(rhi g 0 len) = pick (ppBig len true) (rhi g 0 len) ∧ pick (ppBig len true) (rhi g 1 len) =
 pick (ppBig len true) (rhi g 1 len) ∧ (True ∧ len = len) ∧ True) ∧ True ∧ (100 = 100 ∧ 2 = 2 ∧ 2 * len ≤ 2 * len ∧ ∀ (i : Nat), i < 2 * len → g i = g i) ∧ True ∧ (150 = 150 ∧ 0 = 0 ∧ true = true ∧ (ppBig l0 true && fGt .f64 (cwF g0 l0 l0) 0) = (ppBig l0 true && fGt .f64
(cwF g0 l0 l0) 0) ∧ (ppBig l0 true && !(dcF g0 l0 l0).2) = (ppBig l0 true && !(dcF g0 l0 l0).2) ∧ (0 : Int) = 0 ∧ True ∧
 pick (ppBig l0 true) (rlo g0 0 l0) = pick (ppBig l0 true) (rlo g0 0 l0) ∧ pick (ppBig l0
 true) (rlo g0 1 l0) = pick (ppBig l0 true) (rlo g0 1 l0) ∧ pick (ppBig l0 true) (rhi g0 0 l0) =
 pick (ppBig l0 true) (rhi g0 0 l0) ∧ pick (ppBig l0 true) (rhi g0 1 l0) = pick (ppBig l0
 true) (rhi g0 1 l0) ∧ (True ∧ l0 = l0) ∧ True) ∧ True ∧ (100 = 100 ∧ 2 = 2 ∧ 2 * l0 ≤ 2 * l0 ∧ ∀ (i : Nat), i < 2 * l0 → g0 i = g0 i) ∧ True ∧ (150 = 150 ∧ 0 = 0 ∧ true = true ∧ (ppBig l1 true && fGt .f64 (cwF g1 l1 l1) 0) = (ppBig l1 true && fGt .f64 (cwF g1 l1 l1) 0) ∧
(ppBig l1 true && !(dcF g1 l1 l1).2) = (ppBig l1 true && !(dcF g1 l1 l1).2) ∧ (0 : Int) = 0 ∧ True ∧ pick (ppBig l1
 true) (rlo g1 0 l1) = pick (ppBig l1 true) (rlo g1 0 l1) ∧ pick (ppBig l1 true) (rlo g1 1 l1) =
 pick (ppBig l1 true) (rlo g1 1 l1) ∧ pick (ppBig l1 true) (rhi g1 0 l1) = pick (ppBig l1
 true) (rhi g1 0 l1) ∧ pick (ppBig l1 true) (rhi g1 1 l1) = pick (ppBig l1 true) (rhi g1 1 l1) ∧
(True ∧ l1 = l1) ∧ True) ∧ True ∧ (100 = 100 ∧ 2 = 2 ∧ 2 * l1 ≤ 2 * l1 ∧ ∀ (i : Nat), i < 2 * l1 → g1 i = g1 i) ∧ True) ∧ (decide (1 < (↑k : Int)) = false → (True ∧ 0 = 0) ∧ True ∧ (137 = 137 ∧ 0 = 0 ∧ (True ∧ 0 = 0) ∧ (True ∧ k = k) ∧ True) ∧ True ∧ (106 = 106 ∧ 1 = 1 ∧ k = k ∧ (0 < k → True ∧ 0 = 0) ∧ (1 < k → False) ∧ (2 < k → False) ∧ (3 < k → False) ∧ True) ∧ True ∧ (150 = 150 ∧ 0 = 0 ∧ true = true ∧ (ppBig len true && fGt .f64 (cwF g len len) 0)
= (ppBig len true && fGt .f64 (cwF g len len) 0) ∧ (ppBig len true && !(dcF g len len).2) = (ppBig len true && !Prod.snd
(dcF g len len)) ∧ (0 : Int) = 0 ∧ True ∧ pick (ppBig len true) (rlo g 0 len) = pick (ppBig len true) (rlo g
0 len) ∧ pick (ppBig len true) (rlo g 1 len) = pick (ppBig len true) (rlo g 1 len) ∧ pick
(ppBig len true) (rhi g 0 len) = pick (ppBig len true) (rhi g 0 len) ∧ pick (ppBig len true)
(rhi g 1 len) = pick (ppBig len true) (rhi g 1 len) ∧ (True ∧ len = len) ∧ True) ∧ True ∧ (100 = 100 ∧ 2 = 2 ∧ 2 * len ≤
2 * len ∧ ∀ (i : Nat), i < 2 * len → g i = g i) ∧ True ∧ (150 = 150 ∧ 0 = 0 ∧ true = true ∧ (ppBig l0 true && fGt .f64 (cwF g0 l0 l0) 0) =
(ppBig l0 true && fGt .f64 (cwF g0 l0 l0) 0) ∧ (ppBig l0 true && !(dcF g0 l0 l0).2) = (ppBig l0 true && !(dcF g0
 l0 l0).2) ∧ (0 : Int) = 0 ∧ True ∧ pick (ppBig l0 true) (rlo g0 0 l0) = pick (ppBig l0 true) (rlo g0 0 l0) ∧
 pick (ppBig l0 true) (rlo g0 1 l0) = pick (ppBig l0 true) (rlo g0 1 l0) ∧ pick (ppBig l0
 true) (rhi g0 0 l0) = pick (ppBig l0 true) (rhi g0 0 l0) ∧ pick (ppBig l0 true) (rhi g0 1 l0) =
 pick (ppBig l0 true) (rhi g0 1 l0) ∧ (True ∧ l0 = l0) ∧ pres k 0 10 = 10) ∧ True ∧ (100 = 100 ∧ 2 = 2 ∧ 2
* l0 ≤ 2 * l0 ∧ ∀ (i : Nat), i < 2 * l0 → g0 i = g0 i) ∧ True ∧ pres k 1 10 = 0 ∧ True ∧ 2 * l1 = 0 ∧ True ∧ pres k 2 10 = 0 ∧ True ∧
2 * l2 = 0 ∧ True ∧ pres k 3 10 = 0 ∧ True ∧ 2 * l3 = 0 ∧ True)) ∧ (∀ (_ : Nat), 2 ≤ k → (decide (2 < (↑k : Int)) = true → (((0 : Int) ≤ 2 ∧ (2 : Int) <
(↑k : Int)) ∧ 1 ≤ k) ∧ 3 ≤ k ∧ (2 * l2 = 2 * l2 ∧ km = (0 : Int) ∧ l2 ≤ 1000000 ∧ (ppBig l2 true = true → ppOk g2 l2)) ∧ (((0 : Int) ≤ 2 ∧ 2 < (↑k : Int)) ∧
1 ≤ k) ∧ 3 ≤ k ∧ true = true ∧ ∃ (_ : Nat), 3 ≤ k ∧ ((True ∧ k = k) ∧ (True ∧ 0 = 0) ∧ (True ∧ 0 = 0) ∧ (↑k : Int) = (↑k : Int) ∧ (3 : Int) = 3 ∧ True) ∧ True ∧ (k = k ∧ (0 < k →
 True ∧ l0 = l0) ∧ (1 < k → True ∧ l1 = l1) ∧ (2 < k → True ∧ l2 = l2) ∧ (3 < k → True ∧ l3 = l3) ∧ True) ∧ True ∧ (2 * l0 ≤ 2 * l0 ∧ ∀ (i : Nat), i < 2 * l0 → g0 i = g0 i) ∧ True ∧ (2 * l1 ≤ 2 * l1 ∧ ∀ (i : Nat), i < 2 * l1 → g1 i = g1 i) ∧ True ∧ (2 * l2 ≤ 2 * l2 ∧ ∀ (i : Nat), i < 2 * l2 → g2 i = g2 i) ∧ True ∧ (2 * l3 ≤ 2 * l3 ∧ ∀ (i : Nat), i < 2 * l3 → g3 i = g3 i) ∧ True
∧ (km = km ∧ mm = mm ∧ True) ∧ True ∧ (137 = 137 ∧ 0 = 0 ∧ (True ∧ 0 = 0) ∧ (True ∧ k = k) ∧ True) ∧ True ∧ (106 = 106 ∧ 1 = 1 ∧ k = k ∧ (0 < k → True ∧ 0
= 0) ∧ (1 < k → True ∧ 0 = 0) ∧ (2 < k → True ∧ 0 = 0) ∧ (3 < k → True) ∧ True) ∧ True ∧ (150 = 150 ∧ 0 = 0 ∧ true = true ∧ (ppBig len
 true && fGt .f64 (cwF g len len) 0) = (ppBig len true && fGt .f64 (cwF g len len) 0) ∧ (ppBig len true && !(dcF g len len).2)
= (ppBig len true && !(dcF g len len).2) ∧ (0 : Int) = 0 ∧ True ∧ pick (ppBig len true) (rlo g 0 len) = pick
(ppBig len true) (rlo g 0 len) ∧ pick (ppBig len true) (rlo g 1 len) = pick (ppBig len true)
(rlo g 1 len) ∧ pick (ppBig len true) (rhi g 0 len) = pick (ppBig len true) (rhi g 0 len) ∧
 pick (ppBig len true) (rhi g 1 len) = pick (ppBig len true) (rhi g 1 len) ∧ (True ∧ len = len) ∧ True) ∧ True ∧ (100 =
100 ∧ 2 = 2 ∧ 2 * len ≤ 2 * len ∧ ∀ (i : Nat), i < 2 * len → g i = g i) ∧ True ∧ (150 = 150 ∧ 0 = 0 ∧ true = true ∧ (ppBig l0 true && fGt .f64
(cwF g0 l0 l0) 0) = (ppBig l0 true && fGt .f64 (cwF g0 l0 l0) 0) ∧ (ppBig l0 true && !(dcF g0 l0 l0).2) = (ppBig
 l0 true && !(dcF g0 l0 l0).2) ∧ (0 : Int) = 0 ∧ True ∧ pick (ppBig l0 true) (rlo g0 0 l0) = pick (ppBig l0 true)
(rlo g0 0 l0) ∧ pick (ppBig l0 true) (rlo g0 1 l0) = pick (ppBig l0 true) (rlo g0 1 l0) ∧
 pick (ppBig l0 true) (rhi g0 0 l0) = pick (ppBig l0 true) (rhi g0 0 l0) ∧ pick (ppBig l0
 true) (rhi g0 1 l0) = pick (ppBig l0 true) (rhi g0 1 l0) ∧ (True ∧ l0 = l0) ∧ True) ∧ True ∧ (100 = 100 ∧ 2 = 2 ∧ 2 * l0 ≤
2 * l0 ∧ ∀ (i : Nat), i < 2 * l0 → g0 i = g0 i) ∧ True ∧ (150 = 150 ∧ 0 = 0 ∧ true = true ∧ (ppBig l1 true && fGt .f64 (cwF g1 l1 l1) 0) =
(ppBig l1 true && fGt .f64 (cwF g1 l1 l1) 0) ∧ (ppBig l1 true && !(dcF g1 l1 l1).2) = (ppBig l1 true && !(dcF g1
 l1 l1).2) ∧ (0 : Int) = 0 ∧ True ∧ pick (ppBig l1 true) (rlo g1 0 l1) = pick (ppBig l1 true) (rlo g1 0 l1) ∧
 pick (ppBig l1 true) (rlo g1 1 l1) = pick (ppBig l1 true) (rlo g1 1 l1) ∧ pick (ppBig l1
 true) (rhi g1 0 l1) = pick (ppBig l1 true) (rhi g1 0 l1) ∧ pick (ppBig l1 true) (rhi g1 1 l1) =
 pick (ppBig l1 true) (rhi g1 1 l1) ∧ (True ∧ l1 = l1) ∧ True) ∧ True ∧ (100 = 100 ∧ 2 = 2 ∧ 2 * l1 ≤ 2 * l1 ∧ ∀ (i : Nat), i < 2 *
 l1 → g1 i = g1 i) ∧ True ∧ (150 = 150 ∧ 0 = 0 ∧ true = true ∧ (ppBig l2 true && fGt .f64 (cwF g2 l2 l2) 0) = (ppBig l2 true && fGt .f64
(cwF g2 l2 l2) 0) ∧ (ppBig l2 true && !(dcF g2 l2 l2).2) = (ppBig l2 true && !(dcF g2 l2 l2).2) ∧ (0 : Int) = 0 ∧ True ∧
 pick (ppBig l2 true) (rlo g2 0 l2) = pick (ppBig l2 true) (rlo g2 0 l2) ∧ pick (ppBig l2
 true) (rlo g2 1 l2) = pick (ppBig l2 true) (rlo g2 1 l2) ∧ pick (ppBig l2 true) (rhi g2 0 l2) =
 pick (ppBig l2 true) (rhi g2 0 l2) ∧ pick (ppBig l2 true) (rhi g2 1 l2) = pick (ppBig l2
 true) (rhi g2 1 l2) ∧ (True ∧ l2 = l2) ∧ True) ∧ True ∧ (100 = 100 ∧ 2 = 2 ∧ 2 * l2 ≤ 2 * l2 ∧ ∀ (i : Nat), i < 2 * l2 → g2 i = g2 i) ∧ True) ∧ (decide (2 < (↑k
: Int)) = false → (True ∧ 0 = 0) ∧ True ∧ (137 = 137 ∧ 0 = 0 ∧ (True ∧ 0 = 0) ∧ (True ∧ k = k) ∧ True) ∧ True ∧ (106 = 106 ∧ 1 = 1 ∧ k = k ∧ (0 <
 k → True ∧ 0 = 0) ∧ (1 < k → True ∧ 0 = 0) ∧ (2 < k → False) ∧ (3 < k → False) ∧ True) ∧ True ∧ (150 = 150 ∧ 0 = 0 ∧ true = true ∧ (ppBig len
 true && fGt .f64 (cwF g len len) 0) = (ppBig len true && fGt .f64 (cwF g len len) 0) ∧ (ppBig len true && !(dcF g len len).2)
= (ppBig len true && !(dcF g len len).2) ∧ (0 : Int) = 0 ∧ True ∧ pick (ppBig len true) (rlo g 0 len) = pick
(ppBig len true) (rlo g 0 len) ∧ pick (ppBig len true) (rlo g 1 len) = pick (ppBig len true)
(rlo g 1 len) ∧ pick (ppBig len true) (rhi g 0 len) = pick (ppBig len true) (rhi g 0 len) ∧
 pick (ppBig len true) (rhi g 1 len) = pick (ppBig len true) (rhi g 1 len) ∧ (True ∧ len = len) ∧ True) ∧ True ∧ (100 =
100 ∧ 2 = 2 ∧ 2 * len ≤ 2 * len ∧ ∀ (i : Nat), i < 2 * len → g i = g i) ∧ True ∧ (150 = 150 ∧ 0 = 0 ∧ true = true ∧ (ppBig l0 true && fGt .f64
(cwF g0 l0 l0) 0) = (ppBig l0 true && fGt .f64 (cwF g0 l0 l0) 0) ∧ (ppBig l0 true && !(dcF g0 l0 l0).2) = (ppBig
 l0 true && !(dcF g0 l0 l0).2) ∧ (0 : Int) = 0 ∧ True ∧ pick (ppBig l0 true) (rlo g0 0 l0) = pick (ppBig l0 true)
(rlo g0 0 l0) ∧ pick (ppBig l0 true) (rlo g0 1 l0) = pick (ppBig l0 true) (rlo g0 1 l0) ∧
 pick (ppBig l0 true) (rhi g0 0 l0) = pick (ppBig l0 true) (rhi g0 0 l0) ∧ pick (ppBig l0
 true) (rhi g0 1 l0) = pick (ppBig l0 true) (rhi g0 1 l0) ∧ (True ∧ l0 = l0) ∧ pres k 0 10 = 10) ∧ True ∧ (100 =
100 ∧ 2 = 2 ∧ 2 * l0 ≤ 2 * l0 ∧ ∀ (i : Nat), i < 2 * l0 → g0 i = g0 i) ∧ True ∧ (150 = 150 ∧ 0 = 0 ∧ true = true ∧ (ppBig l1 true && fGt .f64
(cwF g1 l1 l1) 0) = (ppBig l1 true && fGt .f64 (cwF g1 l1 l1) 0) ∧ (ppBig l1 true && !(dcF g1 l1 l1).2) = (ppBig
 l1 true && !(dcF g1 l1 l1).2) ∧ (0 : Int) = 0 ∧ True ∧ pick (ppBig l1 true) (rlo g1 0 l1) = pick (ppBig l1 true)
(rlo g1 0 l1) ∧ pick (ppBig l1 true) (rlo g1 1 l1) = pick (ppBig l1 true) (rlo g1 1 l1) ∧
 pick (ppBig l1 true) (rhi g1 0 l1) = pick (ppBig l1 true) (rhi g1 0 l1) ∧ pick (ppBig l1
 true) (rhi g1 1 l1) = pick (ppBig l1 true) (rhi g1 1 l1) ∧ (True ∧ l1 = l1) ∧ pres k 1 10 = 10) ∧ True ∧ (100 =
100 ∧ 2 = 2 ∧ 2 * l1 ≤ 2 * l1 ∧ ∀ (i : Nat), i < 2 * l1 → g1 i = g1 i) ∧ True ∧ pres k 2 10 = 0 ∧ True ∧ 2 * l2 = 0 ∧ True ∧
 pres k 3 10 = 0 ∧ True ∧ 2 * l3 = 0 ∧ True)) ∧ (∀ (_ : Nat), 3 ≤ k → (decide (3 < (↑k : Int)) = true → (((0 : Int) ≤ 3 ∧ 3 < (↑k : Int)) ∧ 1 ≤ k) ∧ 4 ≤ k ∧ (2 * l3 = 2 * l3 ∧ km = (0 : Int) ∧ l3 ≤ 1000000 ∧ (ppBig l3 true = true → ppOk g3 l3)) ∧ (((0 : Int) ≤ 3 ∧ 3 < (↑k : Int)) ∧ 1 ≤ k) ∧ 4 ≤ k ∧ true
= true ∧ ∃ (_ : Nat), 4 ≤ k ∧ ((True ∧ k = k) ∧ (True ∧ 0 = 0) ∧ (True ∧ 0 = 0) ∧ (↑k : Int) = (↑k : Int) ∧ (4 : Int) = 4 ∧ True) ∧ True ∧ (k = k ∧ (0 < k → True ∧ l0 = l0) ∧ (1 < k →
 True ∧ l1 = l1) ∧ (2 < k → True ∧ l2 = l2) ∧ (3 < k → True ∧ l3 = l3) ∧ True) ∧ True ∧ (2 * l0 ≤ 2 * l0 ∧ ∀ (i : Nat), i < 2 * l0 → g0 i = g0 i) ∧ True ∧ (2 * l1 ≤ 2 * l1 ∧ ∀ (i : Nat), i < 2 * l1 → g1 i = g1 i) ∧ True ∧ (2 * l2 ≤ 2 * l2 ∧ ∀ (i : Nat), i < 2 * l2 → g2 i = g2 i) ∧ True ∧ (2 * l3 ≤ 2 * l3 ∧ ∀ (i : Nat), i < 2 * l3 → g3 i = g3 i) ∧ True ∧ (km = km ∧ mm = mm ∧ True) ∧ True
∧ (137 = 137 ∧ 0 = 0 ∧ (True ∧ 0 = 0) ∧ (True ∧ k = k) ∧ True) ∧ True ∧ (106 = 106 ∧ 1 = 1 ∧ k = k ∧ (0 < k → True ∧ 0 = 0) ∧ (1 < k →
 True ∧ 0 = 0) ∧ (2 < k → True ∧ 0 = 0) ∧ (3 < k → True ∧ 0 = 0) ∧ True) ∧ True ∧ (150 = 150 ∧ 0 = 0 ∧ true = true ∧ (ppBig len true &&
 fGt .f64 (cwF g len len) 0) = (ppBig len true && fGt .f64 (cwF g len len) 0) ∧ (ppBig len true && !(dcF g len len).2) =
(ppBig len true && !(dcF g len len).2) ∧ (0 : Int) = 0 ∧ True ∧ pick (ppBig len true) (rlo g 0 len) = pick
(ppBig len true) (rlo g 0 len) ∧ pick (ppBig len true) (rlo g 1 len) = pick (ppBig len true)
(rlo g 1 len) ∧ pick (ppBig len true) (rhi g 0 len) = pick (ppBig len true) (rhi g 0 len) ∧
 pick (ppBig len true) (rhi g 1 len) = pick (ppBig len true) (rhi g 1 len) ∧ (True ∧ len = len) ∧ True) ∧ True ∧ (100 =
100 ∧ 2 = 2 ∧ 2 * len ≤ 2 * len ∧ ∀ (i : Nat), i < 2 * len → g i = g i) ∧ True ∧ (150 = 150 ∧ 0 = 0 ∧ true = true ∧ (ppBig l0 true && fGt .f64
(cwF g0 l0 l0) 0) = (ppBig l0 true && fGt .f64 (cwF g0 l0 l0) 0) ∧ (ppBig l0 true && !(dcF g0 l0 l0).2) = (ppBig
 l0 true && !(dcF g0 l0 l0).2) ∧ (0 : Int) = 0 ∧ True ∧ pick (ppBig l0 true) (rlo g0 0 l0) = pick (ppBig l0 true)
(rlo g0 0 l0) ∧ pick (ppBig l0 true) (rlo g0 1 l0) = pick (ppBig l0 true) (rlo g0 1 l0) ∧
 pick (ppBig l0 true) (rhi g0 0 l0) = pick (ppBig l0 true) (rhi g0 0 l0) ∧ pick (ppBig l0
 true) (rhi g0 1 l0) = pick (ppBig l0 true) (rhi g0 1 l0) ∧ (True ∧ l0 = l0) ∧ True) ∧ True ∧ (100 = 100 ∧ 2 = 2 ∧ 2 * l0 ≤
2 * l0 ∧ ∀ (i : Nat), i < 2 * l0 → g0 i = g0 i) ∧ True ∧ (150 = 150 ∧ 0 = 0 ∧ true = true ∧ (ppBig l1 true && fGt .f64 (cwF g1 l1 l1) 0) =
(ppBig l1 true && fGt .f64 (cwF g1 l1 l1) 0) ∧ (ppBig l1 true && !(dcF g1 l1 l1).2) = (ppBig l1 true && !(dcF g1
 l1 l1).2) ∧ (0 : Int) = 0 ∧ True ∧ pick (ppBig l1 true) (rlo g1 0 l1) = pick (ppBig l1 true) (rlo g1 0 l1) ∧
 pick (ppBig l1 true) (rlo g1 1 l1) = pick (ppBig l1 true) (rlo g1 1 l1) ∧ pick (ppBig l1
 true) (rhi g1 0 l1) = pick (ppBig l1 true) (rhi g1 0 l1) ∧ pick (ppBig l1 true) (rhi g1 1 l1) =
 pick (ppBig l1 true) (rhi g1 1 l1) ∧ (True ∧ l1 = l1) ∧ True) ∧ True ∧ (100 = 100 ∧ 2 = 2 ∧ 2 * l1 ≤ 2 * l1 ∧ ∀ (i : Nat), i < 2 *
 l1 → g1 i = g1 i) ∧ True ∧ (150 = 150 ∧ 0 = 0 ∧ true = true ∧ (ppBig l2 true && fGt .f64 (cwF g2 l2 l2) 0) = (ppBig l2 true && fGt .f64
(cwF g2 l2 l2) 0) ∧ (ppBig l2 true && !(dcF g2 l2 l2).2) = (ppBig l2 true && !(dcF g2 l2 l2).2) ∧ (0 : Int) = 0 ∧ True ∧
 pick (ppBig l2 true) (rlo g2 0 l2) = pick (ppBig l2 true) (rlo g2 0 l2) ∧ pick (ppBig l2
 true) (rlo g2 1 l2) = pick (ppBig l2 true) (rlo g2 1 l2) ∧ pick (ppBig l2 true) (rhi g2 0 l2) =
 pick (ppBig l2 true) (rhi g2 0 l2) ∧ pick (ppBig l2 true) (rhi g2 1 l2) = pick (ppBig l2
 true) (rhi g2 1 l2) ∧ (True ∧ l2 = l2) ∧ True) ∧ True ∧ (100 = 100 ∧ 2 = 2 ∧ 2 * l2 ≤ 2 * l2 ∧ ∀ (i : Nat), i < 2 * l2 → g2 i = g2 i) ∧ True ∧ (150 = 150 ∧ 0 = 0 ∧ true = true ∧ (ppBig l3 true && fGt .f64 (cwF g3 l3 l3) 0) = (ppBig l3 true && fGt .f64 (cwF g3 l3 l3) 0) ∧
(ppBig l3 true && !(dcF g3 l3 l3).2) = (ppBig l3 true && !(dcF g3 l3 l3).2) ∧ (0 : Int) = 0 ∧ True ∧ pick (ppBig l3
 true) (rlo g3 0 l3) = pick (ppBig l3 true) (rlo g3 0 l3) ∧ pick (ppBig l3 true) (rlo g3 1 l3) =
 pick (ppBig l3 true) (rlo g3 1 l3) ∧ pick (ppBig l3 true) (rhi g3 0 l3) = pick (ppBig l3
 true) (rhi g3 0 l3) ∧ pick (ppBig l3 true) (rhi g3 1 l3) = pick (ppBig l3 true) (rhi g3 1 l3) ∧
(True ∧ l3 = l3) ∧ True) ∧ True ∧ (100 = 100 ∧ 2 = 2 ∧ 2 * l3 ≤ 2 * l3 ∧ ∀ (i : Nat), i < 2 * l3 → g3 i = g3 i) ∧ True) ∧ (decide (3 < (↑k : Int)) = false → (True ∧ 0 = 0) ∧ True ∧ (137 = 137 ∧ 0 = 0 ∧ (True ∧ 0 = 0) ∧ (True ∧ k = k) ∧ True) ∧ True ∧ (106 = 106 ∧ 1 = 1 ∧ k = k ∧ (0 < k → True ∧ 0 = 0) ∧ (1 < k → True ∧ 0 = 0) ∧ (2 < k → True ∧ 0 = 0) ∧ (3 < k → False) ∧ True) ∧ True ∧ (150 = 150 ∧ 0 = 0 ∧ true = true ∧ (ppBig len true && fGt
.f64 (cwF g len len) 0) = (ppBig len true && fGt .f64 (cwF g len len) 0) ∧ (ppBig len true && !(dcF g len len).2) =
(ppBig len true && !(dcF g len len).2) ∧ (0 : Int) = 0 ∧ True ∧ pick (ppBig len true) (rlo g 0 len) = pick
(ppBig len true) (rlo g 0 len) ∧ pick (ppBig len true) (rlo g 1 len) = pick (ppBig len true)
(rlo g 1 len) ∧ pick (ppBig len true) (rhi g 0 len) = pick (ppBig len true) (rhi g 0 len) ∧
 pick (ppBig len true) (rhi g 1 len) = pick (ppBig len true) (rhi g 1 len) ∧ (True ∧ len = len) ∧ True) ∧ True ∧ (100 =
100 ∧ 2 = 2 ∧ 2 * len ≤ 2 * len ∧ ∀ (i : Nat), i < 2 * len → g i = g i) ∧ True ∧ (150 = 150 ∧ 0 = 0 ∧ true = true ∧ (ppBig l0 true && fGt .f64
(cwF g0 l0 l0) 0) = (ppBig l0 true && fGt .f64 (cwF g0 l0 l0) 0) ∧ (ppBig l0 true && !(dcF g0 l0 l0).2) = (ppBig
 l0 true && !(dcF g0 l0 l0).2) ∧ (0 : Int) = 0 ∧ True ∧ pick (ppBig l0 true) (rlo g0 0 l0) = pick (ppBig l0 true)
(rlo g0 0 l0) ∧ pick (ppBig l0 true) (rlo g0 1 l0) = pick (ppBig l0 true) (rlo g0 1 l0) ∧
 pick (ppBig l0 true) (rhi g0 0 l0) = pick (ppBig l0 true) (rhi g0 0 l0) ∧ pick (ppBig l0
 true) (rhi g0 1 l0) = pick (ppBig l0 true) (rhi g0 1 l0) ∧ (True ∧ l0 = l0) ∧ pres k 0 10 = 10) ∧ True ∧ (100 =
100 ∧ 2 = 2 ∧ 2 * l0 ≤ 2 * l0 ∧ ∀ (i : Nat), i < 2 * l0 → g0 i = g0 i) ∧ True ∧ (150 = 150 ∧ 0 = 0 ∧ true = true ∧ (ppBig l1 true && fGt .f64
(cwF g1 l1 l1) 0) = (ppBig l1 true && fGt .f64 (cwF g1 l1 l1) 0) ∧ (ppBig l1 true && !(dcF g1 l1 l1).2) = (ppBig
 l1 true && !(dcF g1 l1 l1).2) ∧ (0 : Int) = 0 ∧ True ∧ pick (ppBig l1 true) (rlo g1 0 l1) = pick (ppBig l1 true)
(rlo g1 0 l1) ∧ pick (ppBig l1 true) (rlo g1 1 l1) = pick (ppBig l1 true) (rlo g1 1 l1) ∧
 pick (ppBig l1 true) (rhi g1 0 l1) = pick (ppBig l1 true) (rhi g1 0 l1) ∧ pick (ppBig l1
 true) (rhi g1 1 l1) = pick (ppBig l1 true) (rhi g1 1 l1) ∧ (True ∧ l1 = l1) ∧ pres k 1 10 = 10) ∧ True ∧ (100 =
100 ∧ 2 = 2 ∧ 2 * l1 ≤ 2 * l1 ∧ ∀ (i : Nat), i < 2 * l1 → g1 i = g1 i) ∧ True ∧ (150 = 150 ∧ 0 = 0 ∧ true = true ∧ (ppBig l2 true && fGt .f64
(cwF g2 l2 l2) 0) = (ppBig l2 true && fGt .f64 (cwF g2 l2 l2) 0) ∧ (ppBig l2 true && !(dcF g2 l2 l2).2) = (ppBig
 l2 true && !(dcF g2 l2 l2).2) ∧ (0 : Int) = 0 ∧ True ∧ pick (ppBig l2 true) (rlo g2 0 l2) = pick (ppBig l2 true)
(rlo g2 0 l2) ∧ pick (ppBig l2 true) (rlo g2 1 l2) = pick (ppBig l2 true) (rlo g2 1 l2) ∧
 pick (ppBig l2 true) (rhi g2 0 l2) = pick (ppBig l2 true) (rhi g2 0 l2) ∧ pick (ppBig l2
 true) (rhi g2 1 l2) = pick (ppBig l2 true) (rhi g2 1 l2) ∧ (True ∧ l2 = l2) ∧ pres k 2 10 = 10) ∧ True ∧ (100 =
100 ∧ 2 = 2 ∧ 2 * l2 ≤ 2 * l2 ∧ ∀ (i : Nat), i < 2 * l2 → g2 i = g2 i) ∧ True ∧ pres k 3 10 = 0 ∧ True ∧ 2 * l3 = 0 ∧ True)) ∧ (∀ (_ : Nat), 4 ≤ k → (decide (4 < (↑k : Int)) = true → False) ∧ (decide (4 < (↑k : Int)) = false → (True ∧ 0 = 0) ∧ True ∧ (137 = 137 ∧ 0 = 0 ∧ (True ∧ 0 = 0) ∧ (True ∧ k = k) ∧
 True) ∧ True ∧ (106 = 106 ∧ 1 = 1 ∧ k = k ∧ (0 < k → True ∧ 0 = 0) ∧ (1 < k → True ∧ 0 = 0) ∧ (2 < k → True ∧ 0 = 0) ∧ (3 < k → True ∧ 0 = 0) ∧ True) ∧ True ∧ (150 = 150 ∧ 0 = 0 ∧ true = true ∧ (ppBig len true && fGt .f64 (cwF g len len) 0) = (ppBig len true && fGt
.f64 (cwF g len len) 0) ∧ (ppBig len true && !(dcF g len len).2) = (ppBig len true && !(dcF g len len).2) ∧ (0 : Int) = 0 ∧ True ∧
 pick (ppBig len true) (rlo g 0 len) = pick (ppBig len true) (rlo g 0 len) ∧ pick (ppBig
 len true) (rlo g 1 len) = pick (ppBig len true) (rlo g 1 len) ∧ pick (ppBig len true) (rhi g 0 len)
= pick (ppBig len true) (rhi g 0 len) ∧ pick (ppBig len true) (rhi g 1 len) = pick (ppBig
 len true) (rhi g 1 len) ∧ (True ∧ len = len) ∧ True) ∧ True ∧ (100 = 100 ∧ 2 = 2 ∧ 2 * len ≤ 2 * len ∧ ∀ (i : Nat), i < 2 * len → g i = g i) ∧ True ∧ (150 =
150 ∧ 0 = 0 ∧ true = true ∧ (ppBig l0 true && fGt .f64 (cwF g0 l0 l0) 0) = (ppBig l0 true && fGt .f64 (cwF g0 l0 l0) 0) ∧
(ppBig l0 true && !(dcF g0 l0 l0).2) = (ppBig l0 true && !(dcF g0 l0 l0).2) ∧ (0 : Int) = 0 ∧ True ∧ pick (ppBig l0
 true) (rlo g0 0 l0) = pick (ppBig l0 true) (rlo g0 0 l0) ∧ pick (ppBig l0 true) (rlo g0 1 l0) =
 pick (ppBig l0 true) (rlo g0 1 l0) ∧ pick (ppBig l0 true) (rhi g0 0 l0) = pick (ppBig l0
 true) (rhi g0 0 l0) ∧ pick (ppBig l0 true) (rhi g0 1 l0) = pick (ppBig l0 true) (rhi g0 1 l0) ∧
(True ∧ l0 = l0) ∧ pres k 0 10 = 10) ∧ True ∧ (100 = 100 ∧ 2 = 2 ∧ 2 * l0 ≤ 2 * l0 ∧ ∀ (i : Nat), i < 2 * l0 → g0 i = g0 i) ∧ True ∧ (150 = 150 ∧ 0 = 0 ∧ true = true ∧ (ppBig l1 true && fGt .f64 (cwF g1 l1 l1) 0) = (ppBig l1 true && fGt .f64 (cwF g1 l1 l1) 0) ∧
(ppBig l1 true && !(dcF g1 l1 l1).2) = (ppBig l1 true && !(dcF g1 l1 l1).2) ∧ (0 : Int) = 0 ∧ True ∧ pick (ppBig l1
 true) (rlo g1 0 l1) = pick (ppBig l1 true) (rlo g1 0 l1) ∧ pick (ppBig l1 true) (rlo g1 1 l1) =
 pick (ppBig l1 true) (rlo g1 1 l1) ∧ pick (ppBig l1 true) (rhi g1 0 l1) = pick (ppBig l1
 true) (rhi g1 0 l1) ∧ pick (ppBig l1 true) (rhi g1 1 l1) = pick (ppBig l1 true) (rhi g1 1 l1) ∧
(True ∧ l1 = l1) ∧ pres k 1 10 = 10) ∧ True ∧ (100 = 100 ∧ 2 = 2 ∧ 2 * l1 ≤ 2 * l1 ∧ ∀ (i : Nat), i < 2 * l1 → g1 i = g1 i) ∧ True ∧ (150 = 150 ∧ 0 = 0 ∧ true = true ∧ (ppBig l2 true && fGt .f64 (cwF g2 l2 l2) 0) = (ppBig l2 true && fGt .f64 (cwF g2 l2 l2) 0) ∧
(ppBig l2 true && !(dcF g2 l2 l2).2) = (ppBig l2 true && !(dcF g2 l2 l2).2) ∧ (0 : Int) = 0 ∧ True ∧ pick (ppBig l2
 true) (rlo g2 0 l2) = pick (ppBig l2 true) (rlo g2 0 l2) ∧ pick (ppBig l2 true) (rlo g2 1 l2) =
 pick (ppBig l2 true) (rlo g2 1 l2) ∧ pick (ppBig l2 true) (rhi g2 0 l2) = pick (ppBig l2
 true) (rhi g2 0 l2) ∧ pick (ppBig l2 true) (rhi g2 1 l2) = pick (ppBig l2 true) (rhi g2 1 l2) ∧
(True ∧ l2 = l2) ∧ pres k 2 10 = 10) ∧ True ∧ (100 = 100 ∧ 2 = 2 ∧ 2 * l2 ≤ 2 * l2 ∧ ∀ (i : Nat), i < 2 * l2 → g2 i = g2 i) ∧ True ∧ (150 = 150 ∧ 0 = 0 ∧ true = true ∧ (ppBig l3 true && fGt .f64 (cwF g3 l3 l3) 0) = (ppBig l3 true && fGt .f64 (cwF g3 l3 l3) 0) ∧
(ppBig l3 true && !(dcF g3 l3 l3).2) = (ppBig l3 true && !(dcF g3 l3 l3).2) ∧ (0 : Int) = 0 ∧ True ∧ pick (ppBig l3
 true) (rlo g3 0 l3) = pick (ppBig l3 true) (rlo g3 0 l3) ∧ pick (ppBig l3 true) (rlo g3 1 l3) =
 pick (ppBig l3 true) (rlo g3 1 l3) ∧ pick (ppBig l3 true) (rhi g3 0 l3) = pick (ppBig l3
 true) (rhi g3 0 l3) ∧ pick (ppBig l3 true) (rhi g3 1 l3) = pick (ppBig l3 true) (rhi g3 1 l3) ∧
(True ∧ l3 = l3) ∧ pres k 3 10 = 10) ∧ True ∧ (100 = 100 ∧ 2 = 2 ∧ 2 * l3 ≤ 2 * l3 ∧ ∀ (i : Nat), i < 2 * l3 → g3 i = g3 i) ∧ True)) ∧ True) ∧ (decide
(0 < (↑k : Int)) = false → (True ∧ 0 = 0) ∧ True ∧ (137 = 137 ∧ 0 = 0 ∧ (True ∧ 0 = 0) ∧ k = 0 ∧ True) ∧ True ∧ k = 0 ∧ True ∧ (150 = 150 ∧ 0 = 0 ∧ true = true ∧ (ppBig len true && fGt .f64 (cwF g len len) 0) = (ppBig len true && fGt .f64 (cwF g len len) 0) ∧
(ppBig len true && !(dcF g len len).2) = (ppBig len true && !(dcF g len len).2) ∧ (0 : Int) = 0 ∧ True ∧ pick (ppBig len
 true) (rlo g 0 len) = pick (ppBig len true) (rlo g 0 len) ∧ pick (ppBig len true) (rlo g 1 len) =
 pick (ppBig len true) (rlo g 1 len) ∧ pick (ppBig len true) (rhi g 0 len) = pick (ppBig
 len true) (rhi g 0 len) ∧ pick (ppBig len true) (rhi g 1 len) = pick (ppBig len true) (rhi g 1 len)
∧ (True ∧ len = len) ∧ True) ∧ True ∧ (100 = 100 ∧ 2 = 2 ∧ 2 * len ≤ 2 * len ∧ ∀ (i : Nat), i < 2 * len → g i = g i) ∧ True ∧ pres k 0 10 = 0 ∧ True ∧
2 * l0 = 0 ∧ True ∧ pres k 1 10 = 0 ∧ True ∧ 2 * l1 = 0 ∧ True ∧ pres k 2 10 = 0 ∧ True ∧ 2 * l2 = 0 ∧ True ∧
 pres k 3 10 = 0 ∧ True ∧ 2 * l3 = 0 ∧ True)) := by kernel_rfl
theorem nPoU : ConOk Tryz.prog 91 (conR nPoUC) := by
 refine con_of_vc gNP Tryz.func91 rfl (by kernel_rfl) fun args => ?_
 unfold nPoUC
 split
 · rename_i n len h k1 o
   intro o0
   show RdM.All _ (match fltsFrom .f64 o0.c with | some (m, g) => _ | none => _) _
   split
   · rename_i m0 g hm0
     intro o1
     show RdM.All _ (match holU o1.c with | some (k, q0, l0, q1, l1, q2, l2, q3, l3) => _ | none => _) _
     split
     · rename_i k q0 l0 q1 l1 q2 l2 q3 l3 hm1
       intro o2
       show RdM.All _ (match fltsFrom .f64 o2.c with | some (m, g) => _ | none => _) _
       split
       · rename_i m2 g0 hm2
         intro o3
         show RdM.All _ (match fltsFrom .f64 o3.c with | some (m, g) => _ | none => _) _
         split
         · rename_i m3 g1 hm3
           intro o4
           show RdM.All _ (match fltsFrom .f64 o4.c with | some (m, g) => _ | none => _) _
           split
           · rename_i m4 g2 hm4
             intro o5
             show RdM.All _ (match fltsFrom .f64 o5.c with | some (m, g) => _ | none => _) _
             split
             · rename_i m5 g3 hm5
               intro o6
               show RdM.All _ (match optOf o6.c with | some (km, mm) => _ | none => _) _
               split
               · rename_i km mm hm6
                 intro ho
                 replace ho : k = k1 ∧ m0 = 2 * len ∧ m2 = 2 * l0 ∧ m3 = 2 * l1 ∧ m4 = 2 * l2 ∧ m5 = 2 * l3 ∧ hab k l0 l1 l2 l3 ∧ km = 0 ∧ (len ≤ 1000000 ∧ (ppBig len true = true → ppOk g len)) ∧ (l0 ≤ 1000000 ∧ (ppBig l0 true = true → ppOk g0 l0)) ∧ (l1 ≤ 1000000 ∧ (ppBig l1 true = true → ppOk g1 l1)) ∧ (l2 ≤ 1000000 ∧ (ppBig l2 true = true → ppOk g2 l2)) ∧ (l3 ≤ 1000000 ∧ (ppBig l3 true = true → ppOk g3 l3)) := ho
                 obtain ⟨heq0, hsz0, hsz2, hsz3, hsz4, hsz5, ho⟩ := ho
                 subst heq0
                 subst hsz0
                 subst hsz2
                 subst hsz3
                 subst hsz4
                 subst hsz5
                 refine ⟨?_, _, _, (vc_nPoU len km mm k l0 l1 l2 l3 q0 q1 q2 q3 g g0 g1 g2 g3).mpr ?_⟩
                 · refine okFlag_mk rfl ⟨?_, ⟨trivial, (contR_flts hm0).1, ⟨trivial, holU_spec hm1 (by simp [sgSig, fsts, nth, sameN_self]) (by simp [sgSig, fsts, nth, sameN_self]) (by simp [sgSig, fsts, nth, sameN_self]) (by simp [sgSig, fsts, nth, sameN_self]), ⟨trivial, (contR_flts hm2).1, ⟨trivial, (contR_flts hm3).1, ⟨trivial, (contR_flts hm4).1, ⟨trivial, (contR_flts hm5).1, ⟨trivial, optOf_spec hm6, trivial⟩⟩⟩⟩⟩⟩⟩⟩
                   simp [eqvRL, eqvR, sgSig, fsts, nth, sameN_self]
                 · obtain ⟨⟨h4, a0, a1, a2, a3⟩, hk, ⟨h1, h2⟩, ⟨c0, d0⟩, ⟨c1, d1⟩, ⟨c2, d2⟩, c3, d3⟩ := ho
                   simp only [hk, h1, c0, c1, c2, c3, true_and, and_true, implies_true, eq_self, Nat.le_refl, and_self]
                   have hk5 : k = 0 ∨ k = 1 ∨ k = 2 ∨ k = 3 ∨ k = 4 := by omega
                   clear h4
                   rcases hk5 with rfl | rfl | rfl | rfl | rfl
                   all_goals simp +contextual at a0 a1 a2 a3
                   all_goals simp +contextual [pres, a0, a1, a2, a3, h2, d0, d1, d2, d3]
               · trivial
             · trivial
           · trivial
         · trivial
       · trivial
     · trivial
   · trivial
 · trivial
noncomputable def GSPU : Ctx := ⟨⟨tys, []⟩, [(74, conR ptsC), (91, conR nPoUC)]⟩
theorem gSPU : CtxOk Tryz.prog GSPU := ⟨⟨tysOk, FlatsOk.nil⟩, GamOk.cons pts (GamOk.cons nPoU GamOk.nil), by kernel_rfl⟩
noncomputable def shPUC : List SV → RdM
 | [.agg [.int .i64 3, .slcc n len, .slcc h k1], .ptr o 0] => .read n fun o0 => (match intsFrom .i64 o0.c with
   | some (m0, g) => .read h fun o1 => (match holU o1.c with
   | some (k, q0, l0, q1, l1, q2, l2, q3, l3) => .read q0 fun o2 => (match intsFrom .i64 o2.c with
   | some (m2, g0) => .read q1 fun o3 => (match intsFrom .i64 o3.c with
   | some (m3, g1) => .read q2 fun o4 => (match intsFrom .i64 o4.c with
   | some (m4, g2) => .read q3 fun o5 => (match intsFrom .i64 o5.c with
   | some (m5, g3) => .read o fun o6 => (match optOf o6.c with
   | some (km, mm) => .ret ⟨[.agg [.int .i64 3, .slcc 0 len, .slcc 1 k], .ptr 6 0], [(0, ⟨false, 23, .ints .i64 m0 g, 0⟩), (1, ⟨false, 25, .upto k [.slcc 2 l0, .slcc 3 l1, .slcc 4 l2, .slcc 5 l3], 0⟩), (2, ⟨false, 23, .ints .i64 m2 g0, 0⟩), (3, ⟨false, 23, .ints .i64 m3 g1, 0⟩), (4, ⟨false, 23, .ints .i64 m4 g2, 0⟩), (5, ⟨false, 23, .ints .i64 m5 g3, 0⟩), (6, ⟨false, 148, optC km mm, 0⟩)], .ifc 121 (.ptr 7 0), [], [(7, ⟨true, 137, .cells [.ifc 157 (.ptr 9 0), .slcc 8 k], 0⟩), (8, ⟨true, 106, .upto k [.ifc 157 (.ptr 11 0), .ifc 157 (.ptr 13 0), .ifc 157 (.ptr 15 0), .ifc 157 (.ptr 17 0)], 1⟩), (9, ⟨true, 150, .cells (rectS len true (fI g) 10 0), 0⟩), (10, ⟨true, 100, .flts .f64 (2 * len) (fI g), 2⟩), (11, ⟨true, 150, .upto (pres k 0 10) (rectS l0 true (fI g0) 12 0), 0⟩), (12, ⟨true, 100, .flts .f64 (2 * l0) (fI g0), 2⟩), (13, ⟨true, 150, .upto (pres k 1 10) (rectS l1 true (fI g1) 14 0), 0⟩), (14, ⟨true, 100, .flts .f64 (2 * l1) (fI g1), 2⟩), (15, ⟨true, 150, .upto (pres k 2 10) (rectS l2 true (fI g2) 16 0), 0⟩), (16, ⟨true, 100, .flts .f64 (2 * l2) (fI g2), 2⟩), (17, ⟨true, 150, .upto (pres k 3 10) (rectS l3 true (fI g3) 18 0), 0⟩), (18, ⟨true, 100, .flts .f64 (2 * l3) (fI g3), 2⟩)], some (k = k1 ∧ m0 = 2 * len ∧ m2 = 2 * l0 ∧ m3 = 2 * l1 ∧ m4 = 2 * l2 ∧ m5 = 2 * l3 ∧ hab k l0 l1 l2 l3 ∧ km = 0 ∧ (len ≤ 1000000 ∧ (ppBig len true = true → ppOk (fI g) len)) ∧ (l0 ≤ 1000000 ∧ (ppBig l0 true = true → ppOk (fI g0) l0)) ∧ (l1 ≤ 1000000 ∧ (ppBig l1 true = true → ppOk (fI g1) l1)) ∧ (l2 ≤ 1000000 ∧ (ppBig l2 true = true → ppOk (fI g2) l2)) ∧ (l3 ≤ 1000000 ∧ (ppBig l3 true = true → ppOk (fI g3) l3)))⟩
   | none => .fail)
   | none => .fail)
   | none => .fail)
   | none => .fail)
   | none => .fail)
   | none => .fail)
   | none => .fail)
 | _ => .fail
theorem vc_shPU (len : Nat) (km mm : Int) (k l0 l1 l2 l3 : Nat) (_ _ _ _ : Nm)  (g : Nat → Int) (g0 : Nat → Int) (g1 : Nat → Int) (g2 : Nat → Int) (g3 : Nat → Int) : runA GSPU 7 [(9, .unr [⟨Nat, fun _ => ⟨53, [(1, .ptr 6 0), (2, .ptr 7 0), (5, .nils), (30, .slcc 1 k), (31, .int .i64 k), (32, .int .i64 0)], [(0, ⟨false, 23, .ints .i64 (2 * len) g, 0⟩), (1, ⟨false, 25, .upto k [.slcc 2 l0, .slcc 3 l1, .slcc 4 l2, .slcc 5 l3], 0⟩), (2, ⟨false, 23, .ints .i64 (2 * l0) g0, 0⟩), (3, ⟨false, 23, .ints .i64 (2 * l1) g1, 0⟩), (4, ⟨false, 23, .ints .i64 (2 * l2) g2, 0⟩), (5, ⟨false, 23, .ints .i64 (2 * l3) g3, 0⟩), (6, ⟨false, 148, optC km mm, 0⟩), (7, ⟨true, 39, .cells [.int .i64 3, .slcc 0 len, .slcc 1 k], 0⟩)], 8⟩, fun _ => 0 ≤ k, fun _ => 0⟩, ⟨Nat, fun _ => ⟨53, [(1, .ptr 6 0), (2, .ptr 7 0), (5, .slcc 8 1), (30, .slcc 1 k), (31, .int .i64 k), (32, .int .i64 1)], [(0, ⟨false, 23, .ints .i64 (2 * len) g, 0⟩), (1, ⟨false, 25, .upto k [.slcc 2 l0, .slcc 3 l1, .slcc 4 l2, .slcc 5 l3], 0⟩), (2, ⟨false, 23, .ints .i64 (2 * l0) g0, 0⟩), (3, ⟨false, 23, .ints .i64 (2 * l1) g1, 0⟩), (4, ⟨false, 23, .ints .i64 (2 * l2) g2, 0⟩), (5, ⟨false, 23, .ints .i64 (2 * l3) g3, 0⟩), (6, ⟨false, 148, optC km mm, 0⟩), (7, ⟨true, 39, .cells [.int .i64 3, .slcc 0 len, .slcc 1 k], 0⟩), (8, ⟨true, 118, .cells [.slcc 9 l0], 1⟩), (9, ⟨true, 100, .flts .f64 (2 * l0) (fI g0), 2⟩)], 10⟩, fun _ => 1 ≤ k, fun _ => 0⟩, ⟨Nat, fun _ => ⟨53, [(1, .ptr 6 0), (2, .ptr 7 0), (5, .slcc 8 2), (30, .slcc 1 k), (31, .int .i64 k), (32, .int .i64 2)], [(0, ⟨false, 23, .ints .i64 (2 * len) g, 0⟩), (1, ⟨false, 25, .upto k [.slcc 2 l0, .slcc 3 l1, .slcc 4 l2, .slcc 5 l3], 0⟩), (2, ⟨false, 23, .ints .i64 (2 * l0) g0, 0⟩), (3, ⟨false, 23, .ints .i64 (2 * l1) g1, 0⟩), (4, ⟨false, 23, .ints .i64 (2 * l2) g2, 0⟩), (5, ⟨false, 23, .ints .i64 (2 * l3) g3, 0⟩), (6, ⟨false, 148, optC km mm, 0⟩), (7, ⟨true, 39, .cells [.int .i64 3, .slcc 0 len, .slcc 1 k], 0⟩), (8, ⟨true, 118, .cells [.slcc 9 l0, .slcc 10 l1], 1⟩), (9, ⟨true, 100, .flts .f64 (2 * l0) (fI g0), 2⟩), (10, ⟨true, 100, .flts .f64 (2 * l1) (fI g1), 2⟩)], 11⟩, fun _ => 2 ≤ k, fun _ => 0⟩, ⟨Nat, fun _ => ⟨53, [(1, .ptr 6 0), (2, .ptr 7 0), (5, .slcc 8 3), (30, .slcc 1 k), (31, .int .i64 k), (32, .int .i64 3)], [(0, ⟨false, 23, .ints .i64 (2 * len) g, 0⟩), (1, ⟨false, 25, .upto k [.slcc 2 l0, .slcc 3 l1, .slcc 4 l2, .slcc 5 l3], 0⟩), (2, ⟨false, 23, .ints .i64 (2 * l0) g0, 0⟩), (3, ⟨false, 23, .ints .i64 (2 * l1) g1, 0⟩), (4, ⟨false, 23, .ints .i64 (2 * l2) g2, 0⟩), (5, ⟨false, 23, .ints .i64 (2 * l3) g3, 0⟩), (6, ⟨false, 148, optC km mm, 0⟩), (7, ⟨true, 39, .cells [.int .i64 3, .slcc 0 len, .slcc 1 k], 0⟩), (8, ⟨true, 118, .cells [.slcc 9 l0, .slcc 10 l1, .slcc 11 l2], 1⟩), (9, ⟨true, 100, .flts .f64 (2 * l0) (fI g0), 2⟩), (10, ⟨true, 100, .flts .f64 (2 * l1) (fI g1), 2⟩), (11, ⟨true, 100, .flts .f64 (2 * l2) (fI g2), 2⟩)], 12⟩, fun _ => 3 ≤ k, fun _ => 0⟩, ⟨Nat, fun _ => ⟨53, [(1, .ptr 6 0), (2, .ptr 7 0), (5, .slcc 8 4), (30, .slcc 1 k), (31, .int .i64 k), (32, .int .i64 4)], [(0, ⟨false, 23, .ints .i64 (2 * len) g, 0⟩), (1, ⟨false, 25, .upto k [.slcc 2 l0, .slcc 3 l1, .slcc 4 l2, .slcc 5 l3], 0⟩), (2, ⟨false, 23, .ints .i64 (2 * l0) g0, 0⟩), (3, ⟨false, 23, .ints .i64 (2 * l1) g1, 0⟩), (4, ⟨false, 23, .ints .i64 (2 * l2) g2, 0⟩), (5, ⟨false, 23, .ints .i64 (2 * l3) g3, 0⟩), (6, ⟨false, 148, optC km mm, 0⟩), (7, ⟨true, 39, .cells [.int .i64 3, .slcc 0 len, .slcc 1 k], 0⟩), (8, ⟨true, 118, .cells [.slcc 9 l0, .slcc 10 l1, .slcc 11 l2, .slcc 12 l3], 1⟩), (9, ⟨true, 100, .flts .f64 (2 * l0) (fI g0), 2⟩), (10, ⟨true, 100, .flts .f64 (2 * l1) (fI g1), 2⟩), (11, ⟨true, 100, .flts .f64 (2 * l2) (fI g2), 2⟩), (12, ⟨true, 100, .flts .f64 (2 * l3) (fI g3), 2⟩)], 13⟩, fun _ => 4 ≤ k, fun _ => 0⟩])] [(13, ⟨Nat, fun _ => ⟨53, [(1, .ptr 6 0), (2, .ptr 7 0), (5, .slcc 8 k)], [(0, ⟨false, 23, .ints .i64 (2 * len) g, 0⟩), (6, ⟨false, 148, optC km mm, 0⟩), (7, ⟨false, 39, .cells [.int .i64 3, .slcc 0 len, .slcc 1 k], 0⟩), (8, ⟨false, 118, .upto k [.slcc 9 l0, .slcc 10 l1, .slcc 11 l2, .slcc 12 l3], 0⟩), (9, ⟨false, 100, .flts .f64 (2 * l0) (fI g0), 0⟩), (10, ⟨false, 100, .flts .f64 (2 * l1) (fI g1), 0⟩), (11, ⟨false, 100, .flts .f64 (2 * l2) (fI g2), 0⟩), (12, ⟨false, 100, .flts .f64 (2 * l3) (fI g3), 0⟩)], 13⟩, fun _ => True, fun _ => 0⟩)] (codeOf Tryz.f63) (init Tryz.f63.ntmps [.agg [.int .i64 3, .slcc 0 len, .slcc 1 k], .ptr 6 0] [(0, ⟨false, 23, .ints .i64 (2 * len) g, 0⟩), (1, ⟨false, 25, .upto k [.slcc 2 l0, .slcc 3 l1, .slcc 4 l2, .slcc 5 l3], 0⟩), (2, ⟨false, 23, .ints .i64 (2 * l0) g0, 0⟩), (3, ⟨false, 23, .ints .i64 (2 * l1) g1, 0⟩), (4, ⟨false, 23, .ints .i64 (2 * l2) g2, 0⟩), (5, ⟨false, 23, .ints .i64 (2 * l3) g3, 0⟩), (6, ⟨false, 148, optC km mm, 0⟩)] 7) (endK GSPU.E.T Tryz.f63.results.toList fun S v => postP 7 ⟨[.agg [.int .i64 3, .slcc 0 len, .slcc 1 k], .ptr 6 0], [(0, ⟨false, 23, .ints .i64 (2 * len) g, 0⟩), (1, ⟨false, 25, .upto k [.slcc 2 l0, .slcc 3 l1, .slcc 4 l2, .slcc 5 l3], 0⟩), (2, ⟨false, 23, .ints .i64 (2 * l0) g0, 0⟩), (3, ⟨false, 23, .ints .i64 (2 * l1) g1, 0⟩), (4, ⟨false, 23, .ints .i64 (2 * l2) g2, 0⟩), (5, ⟨false, 23, .ints .i64 (2 * l3) g3, 0⟩), (6, ⟨false, 148, optC km mm, 0⟩)], .ifc 121 (.ptr 7 0), [], [(7, ⟨true, 137, .cells [.ifc 157 (.ptr 9 0), .slcc 8 k], 0⟩), (8, ⟨true, 106, .upto k [.ifc 157 (.ptr 11 0), .ifc 157 (.ptr 13 0), .ifc 157 (.ptr 15 0), .ifc 157 (.ptr 17 0)], 1⟩), (9, ⟨true, 150, .cells (rectS len true (fI g) 10 0), 0⟩), (10, ⟨true, 100, .flts .f64 (2 * len) (fI g), 2⟩), (11, ⟨true, 150, .upto (pres k 0 10) (rectS l0 true (fI g0) 12 0), 0⟩), (12, ⟨true, 100, .flts .f64 (2 * l0) (fI g0), 2⟩), (13, ⟨true, 150, .upto (pres k 1 10) (rectS l1 true (fI g1) 14 0), 0⟩), (14, ⟨true, 100, .flts .f64 (2 * l1) (fI g1), 2⟩), (15, ⟨true, 150, .upto (pres k 2 10) (rectS l2 true (fI g2) 16 0), 0⟩), (16, ⟨true, 100, .flts .f64 (2 * l2) (fI g2), 2⟩), (17, ⟨true, 150, .upto (pres k 3 10) (rectS l3 true (fI g3) 18 0), 0⟩), (18, ⟨true, 100, .flts .f64 (2 * l3) (fI g3), 2⟩)], some (k = k ∧ 2 * len = 2 * len ∧ 2 * l0 = 2 * l0 ∧ 2 * l1 = 2 * l1 ∧ 2 * l2 = 2 * l2 ∧ 2 * l3 = 2 * l3 ∧ hab k l0 l1 l2 l3 ∧ km = 0 ∧ (len ≤ 1000000 ∧ (ppBig len true = true → ppOk (fI g) len)) ∧ (l0 ≤ 1000000 ∧ (ppBig l0 true = true → ppOk (fI g0) l0)) ∧ (l1 ≤ 1000000 ∧ (ppBig l1 true = true → ppOk (fI g1) l1)) ∧ (l2 ≤ 1000000 ∧ (ppBig l2 true = true → ppOk (fI g2) l2)) ∧ (l3 ≤ 1000000 ∧ (ppBig l3 true = true → ppOk (fI g3) l3)))⟩ S v) = (
(false = true → False) ∧ (false = false → (false = true → (2 * len = 2 * len ∧ len ≤ 1000000) ∧ False) ∧ (false = false → (true = true → ((∃ (_ : Nat), 0 ≤ k ∧ ((True ∧ 0 = 0) ∧ (True ∧ 0 = 0) ∧ True ∧ (True ∧ k = k) ∧ (↑k : Int) = (↑k : Int) ∧ (0 : Int) = 0 ∧ True) ∧ True ∧ (2 * len ≤ 2 * len ∧ ∀ (i : Nat), i < 2 * len → g i = g i) ∧ True ∧ (k = k ∧ (0 < k → True ∧ l0 = l0) ∧ (1 < k →
 True ∧ l1 = l1) ∧ (2 < k → True ∧ l2 = l2) ∧ (3 < k → True ∧ l3 = l3) ∧ True) ∧ True ∧ (2 * l0 ≤ 2 * l0 ∧ ∀ (i : Nat), i < 2 * l0 → g0 i = g0 i) ∧ True ∧ (2 * l1 ≤ 2 * l1 ∧ ∀ (i : Nat), i < 2 * l1 → g1 i = g1 i) ∧ True ∧ (2 * l2 ≤ 2 * l2 ∧ ∀ (i : Nat), i < 2 * l2 → g2 i = g2 i) ∧ True ∧ (2 * l3 ≤ 2 * l3 ∧ ∀ (i : Nat), i < 2 * l3 → g3 i = g3 i) ∧ True ∧ (km = km ∧ mm = mm ∧ True) ∧ True
∧ (39 = 39 ∧ 0 = 0 ∧ (3 : Int) = 3 ∧ (True ∧ len = len) ∧ (True ∧ k = k) ∧ True) ∧ True) ∧ (∀ (_ : Nat), 0 ≤ k → (decide (0 < (↑k : Int)) = true → (((0 : Int) ≤ 0 ∧ 0 < (↑k :
 Int)) ∧ 1 ≤ k) ∧ 1 ≤ k ∧ (2 * l0 = 2 * l0 ∧ l0 ≤ 1000000) ∧ ∃ (_ : Nat), 1 ≤ k ∧ ((True ∧ 0 = 0) ∧ (True ∧ 0 = 0) ∧ (True ∧ 1 = 1) ∧ (True ∧ k = k) ∧ (↑k
: Int) = (↑k : Int) ∧ (1 : Int) = 1 ∧ True) ∧ True ∧ (2 * len ≤ 2 * len ∧ ∀ (i : Nat), i < 2 * len → g i = g i) ∧ True ∧ (k = k ∧ (0 < k → True ∧ l0 = l0) ∧ (1 < k → True ∧ l1 = l1) ∧ (2 < k →
 True ∧ l2 = l2) ∧ (3 < k → True ∧ l3 = l3) ∧ True) ∧ True ∧ (2 * l0 ≤ 2 * l0 ∧ ∀ (i : Nat), i < 2 * l0 → g0 i = g0 i) ∧ True ∧ (2 * l1 ≤ 2 * l1 ∧ ∀ (i : Nat), i < 2 * l1 → g1 i = g1 i) ∧ True ∧
(2 * l2 ≤ 2 * l2 ∧ ∀ (i : Nat), i < 2 * l2 → g2 i = g2 i) ∧ True ∧ (2 * l3 ≤ 2 * l3 ∧ ∀ (i : Nat), i < 2 * l3 → g3 i = g3 i) ∧ True ∧ (km = km ∧ mm = mm ∧ True) ∧ True ∧ (39 = 39 ∧ 0 = 0 ∧ (3 : Int) = 3 ∧ (True ∧ len = len) ∧ (True ∧ k = k) ∧ True) ∧ True ∧ (118 = 118 ∧ 1 = 1 ∧ (True ∧ l0 = l0) ∧ True) ∧ True ∧ (100 = 100 ∧ 2 = 2 ∧ 2 * l0
≤ 2 * l0 ∧ ∀ (i : Nat), i < 2 * l0 → fI g0 i = fI g0 i) ∧ True) ∧ (decide (0 < (↑k : Int)) = false → ∃ (_ : Nat), True ∧ ((True ∧ 0 = 0) ∧ (True ∧ 0 = 0) ∧ k
= 0 ∧ True) ∧ True ∧ (2 * len ≤ 2 * len ∧ ∀ (i : Nat), i < 2 * len → g i = g i) ∧ True ∧ (km = km ∧ mm = mm ∧ True) ∧ True ∧ ((3 : Int) = 3 ∧ (True ∧ len = len) ∧ (True ∧ k = k) ∧ True) ∧ True ∧ k = 0 ∧
 True ∧ 2 * l0 = 0 ∧ True ∧ 2 * l1 = 0 ∧ True ∧ 2 * l2 = 0 ∧ True ∧ 2 * l3 = 0 ∧ True)) ∧ (∀ (_ : Nat), 1 ≤ k → (decide (1 < (↑k : Int)) = true → (((0 : Int) ≤ 1 ∧
1 < (↑k : Int)) ∧ 1 ≤ k) ∧ 2 ≤ k ∧ (2 * l1 = 2 * l1 ∧ l1 ≤ 1000000) ∧ (List.length [SV.slcc 9 l0] = 1 ∧ 48 ≤ 140737488355328 ∧ 2 ≤ 9223372036854775807) ∧
∃ (_ : Nat), 2 ≤ k ∧ ((True ∧ 0 = 0) ∧ (True ∧ 0 = 0) ∧ (True ∧ 2 = 2) ∧ (True ∧ k = k) ∧ (↑k : Int) = (↑k : Int) ∧ (2 : Int) = 2 ∧ True) ∧ True ∧ (2 * len ≤ 2 * len ∧ ∀
(i : Nat), i < 2 * len → g i = g i) ∧ True ∧ (k = k ∧ (0 < k → True ∧ l0 = l0) ∧ (1 < k → True ∧ l1 = l1) ∧ (2 < k → True ∧ l2 = l2) ∧ (3 < k → True ∧ l3 = l3) ∧ True) ∧ True ∧ (2 * l0 ≤ 2 * l0
∧ ∀ (i : Nat), i < 2 * l0 → g0 i = g0 i) ∧ True ∧ (2 * l1 ≤ 2 * l1 ∧ ∀ (i : Nat), i < 2 * l1 → g1 i = g1 i) ∧ True ∧ (2 * l2 ≤ 2 * l2 ∧ ∀ (i : Nat), i < 2 * l2 → g2 i = g2 i) ∧ True ∧ (2
* l3 ≤ 2 * l3 ∧ ∀ (i : Nat), i < 2 * l3 → g3 i = g3 i) ∧ True ∧ (km = km ∧ mm = mm ∧ True) ∧ True ∧ (39 = 39 ∧ 0 = 0 ∧ (3 : Int) = 3 ∧ (True ∧ len = len) ∧ (True ∧ k = k) ∧ True) ∧ True ∧ (118 = 118 ∧ 1 = 1 ∧ (True ∧ l0 = l0) ∧ (True ∧ l1 = l1) ∧ True) ∧ True ∧ (100 = 100 ∧ 2 = 2 ∧ 2 * l0 ≤ 2 * l0 ∧ ∀ (i : Nat), i < 2 * l0 → fI g0 i =
 fI g0 i) ∧ True ∧ (100 = 100 ∧ 2 = 2 ∧ 2 * l1 ≤ 2 * l1 ∧ ∀ (i : Nat), i < 2 * l1 → fI g1 i = fI g1 i) ∧ True) ∧ (decide (1 < (↑k :
 Int)) = false → ∃ (_ : Nat), True ∧ ((True ∧ 0 = 0) ∧ (True ∧ 0 = 0) ∧ (True ∧ 1 = k) ∧ True) ∧ True ∧ (2 * len ≤ 2 * len ∧ ∀ (i : Nat), i < 2 * len → g i = g i) ∧ True ∧ (km = km ∧ mm =
 mm ∧ True) ∧ True ∧ ((3 : Int) = 3 ∧ (True ∧ len = len) ∧ (True ∧ k = k) ∧ True) ∧ True ∧ ((True ∧ l0 = l0) ∧ k = 1) ∧ True ∧ (2 * l0 ≤ 2 * l0 ∧ ∀ (i : Nat), i < 2 * l0 → fI g0 i =
 fI g0 i) ∧ True ∧ 2 * l1 = 0 ∧ True ∧ 2 * l2 = 0 ∧ True ∧ 2 * l3 = 0 ∧ True)) ∧ (∀ (_ : Nat), 2 ≤ k → (decide (2 < (↑k : Int)) = true → (((0 : Int) ≤ 2 ∧ (2 :
 Int) < (↑k : Int)) ∧ 1 ≤ k) ∧ 3 ≤ k ∧ (2 * l2 = 2 * l2 ∧ l2 ≤ 1000000) ∧ (List.length [SV.slcc 9 l0, SV.slcc 10 l1] = 2 ∧ 72 ≤ 140737488355328 ∧ 3 ≤
9223372036854775807) ∧ ∃ (_ : Nat), 3 ≤ k ∧ ((True ∧ 0 = 0) ∧ (True ∧ 0 = 0) ∧ (True ∧ 3 = 3) ∧ (True ∧ k = k) ∧ (↑k : Int) = (↑k : Int) ∧ (3 : Int) = 3 ∧ True) ∧ True ∧ (2 * len ≤ 2 * len ∧ ∀ (i : Nat), i < 2 * len → g i = g i) ∧ True ∧ (k = k ∧ (0 < k → True ∧ l0 = l0) ∧ (1 < k → True ∧ l1 = l1) ∧ (2 < k → True ∧ l2 = l2) ∧ (3 < k → True ∧ l3 = l3) ∧ True) ∧ True ∧
(2 * l0 ≤ 2 * l0 ∧ ∀ (i : Nat), i < 2 * l0 → g0 i = g0 i) ∧ True ∧ (2 * l1 ≤ 2 * l1 ∧ ∀ (i : Nat), i < 2 * l1 → g1 i = g1 i) ∧ True ∧ (2 * l2 ≤ 2 * l2 ∧ ∀ (i : Nat), i < 2 * l2 →
 g2 i = g2 i) ∧ True ∧ (2 * l3 ≤ 2 * l3 ∧ ∀ (i : Nat), i < 2 * l3 → g3 i = g3 i) ∧ True ∧ (km = km ∧ mm = mm ∧ True) ∧ True ∧ (39 = 39 ∧ 0 = 0 ∧ (3 : Int) = 3 ∧ (True ∧ len = len) ∧ (True
∧ k = k) ∧ True) ∧ True ∧ (118 = 118 ∧ 1 = 1 ∧ (True ∧ l0 = l0) ∧ (True ∧ l1 = l1) ∧ (True ∧ l2 = l2) ∧ True) ∧ True ∧ (100 = 100 ∧ 2 = 2 ∧ 2 * l0 ≤ 2 * l0 ∧ ∀ (i : Nat),
 i < 2 * l0 → fI g0 i = fI g0 i) ∧ True ∧ (100 = 100 ∧ 2 = 2 ∧ 2 * l1 ≤ 2 * l1 ∧ ∀ (i : Nat), i < 2 * l1 → fI g1 i =
 fI g1 i) ∧ True ∧ (100 = 100 ∧ 2 = 2 ∧ 2 * l2 ≤ 2 * l2 ∧ ∀ (i : Nat), i < 2 * l2 → fI g2 i = fI g2 i) ∧ True) ∧ (decide (2 < (↑k :
 Int)) = false → ∃ (_ : Nat), True ∧ ((True ∧ 0 = 0) ∧ (True ∧ 0 = 0) ∧ (True ∧ 2 = k) ∧ True) ∧ True ∧ (2 * len ≤ 2 * len ∧ ∀ (i : Nat), i < 2 * len → g i = g i) ∧ True ∧ (km = km ∧ mm =
 mm ∧ True) ∧ True ∧ ((3 : Int) = 3 ∧ (True ∧ len = len) ∧ (True ∧ k = k) ∧ True) ∧ True ∧ ((True ∧ l0 = l0) ∧ (True ∧ l1 = l1) ∧ k = 2) ∧ True ∧ (2 * l0 ≤ 2 * l0 ∧ ∀ (i : Nat), i < 2 * l0 → fI
 g0 i = fI g0 i) ∧ True ∧ (2 * l1 ≤ 2 * l1 ∧ ∀ (i : Nat), i < 2 * l1 → fI g1 i = fI g1 i) ∧ True ∧ 2 * l2 = 0 ∧ True ∧ 2 * l3 = 0 ∧ True)) ∧
(∀ (_ : Nat), 3 ≤ k → (decide (3 < (↑k : Int)) = true → (((0 : Int) ≤ 3 ∧ 3 < (↑k : Int)) ∧ 1 ≤ k) ∧ 4 ≤ k ∧ (2 * l3 = 2 * l3 ∧ l3 ≤ 1000000) ∧ (List.length [SV.slcc 9
 l0, SV.slcc 10 l1, SV.slcc 11 l2] = 3 ∧ 96 ≤ 140737488355328 ∧ 4 ≤ 9223372036854775807) ∧ ∃ (_ : Nat), 4 ≤ k ∧ ((True ∧ 0 = 0) ∧ (True ∧ 0 = 0) ∧ (True ∧
4 = 4) ∧ (True ∧ k = k) ∧ (↑k : Int) = (↑k : Int) ∧ (4 : Int) = 4 ∧ True) ∧ True ∧ (2 * len ≤ 2 * len ∧ ∀ (i : Nat), i < 2 * len → g i = g i) ∧ True ∧ (k = k ∧ (0 < k → True ∧ l0 = l0) ∧ (1 < k → True ∧ l1 = l1) ∧ (2 < k → True ∧ l2 = l2) ∧ (3 < k → True ∧ l3 = l3) ∧ True) ∧ True ∧ (2 * l0 ≤ 2 * l0 ∧ ∀ (i : Nat), i < 2 * l0 → g0 i = g0 i) ∧ True ∧ (2 * l1 ≤ 2 * l1 ∧ ∀ (i :
 Nat), i < 2 * l1 → g1 i = g1 i) ∧ True ∧ (2 * l2 ≤ 2 * l2 ∧ ∀ (i : Nat), i < 2 * l2 → g2 i = g2 i) ∧ True ∧ (2 * l3 ≤ 2 * l3 ∧ ∀ (i : Nat), i < 2 * l3 → g3 i = g3 i) ∧ True ∧ (km = km ∧ mm = mm
∧ True) ∧ True ∧ (39 = 39 ∧ 0 = 0 ∧ (3 : Int) = 3 ∧ (True ∧ len = len) ∧ (True ∧ k = k) ∧ True) ∧ True ∧ (118 = 118 ∧ 1 = 1 ∧ (True ∧ l0 = l0) ∧ (True ∧ l1 = l1) ∧ (True ∧ l2 =
 l2) ∧ (True ∧ l3 = l3) ∧ True) ∧ True ∧ (100 = 100 ∧ 2 = 2 ∧ 2 * l0 ≤ 2 * l0 ∧ ∀ (i : Nat), i < 2 * l0 → fI g0 i = fI g0 i) ∧ True ∧ (100 = 100 ∧ 2 = 2 ∧ 2 * l1 ≤ 2 * l1 ∧ ∀ (i : Nat), i < 2 * l1 → fI g1 i = fI g1 i) ∧ True ∧ (100 = 100 ∧ 2 = 2 ∧ 2 * l2 ≤ 2 * l2 ∧
∀ (i : Nat), i < 2 * l2 → fI g2 i = fI g2 i) ∧ True ∧ (100 = 100 ∧ 2 = 2 ∧ 2 * l3 ≤ 2 * l3 ∧ ∀ (i : Nat), i < 2 * l3 → fI g3 i =
 fI g3 i) ∧ True) ∧ (decide (3 < (↑k : Int)) = false → ∃ (_ : Nat), True ∧ ((True ∧ 0 = 0) ∧ (True ∧ 0 = 0) ∧ (True ∧ 3 = k) ∧ True) ∧ True ∧ (2 * len ≤ 2 * len ∧ ∀ (i :
 Nat), i < 2 * len → g i = g i) ∧ True ∧ (km = km ∧ mm = mm ∧ True) ∧ True ∧ ((3 : Int) = 3 ∧ (True ∧ len = len) ∧ (True ∧ k = k) ∧ True) ∧ True ∧ ((True ∧ l0 = l0) ∧ (True ∧ l1 = l1) ∧ (True ∧ l2 = l2) ∧ k = 3) ∧ True ∧ (2 * l0 ≤ 2 * l0 ∧ ∀ (i : Nat), i < 2 * l0 → fI g0 i = fI g0 i) ∧ True ∧ (2 * l1 ≤ 2 * l1 ∧ ∀ (i : Nat), i < 2 * l1 → fI g1 i = fI g1 i)
∧ True ∧ (2 * l2 ≤ 2 * l2 ∧ ∀ (i : Nat), i < 2 * l2 → fI g2 i = fI g2 i) ∧ True ∧ 2 * l3 = 0 ∧ True)) ∧ (∀ (_ : Nat), 4 ≤ k → (decide (4 < (↑k : Int)) = true
→ (((0 : Int) ≤ 4 ∧ 4 < (↑k : Int)) ∧ 1 ≤ k) ∧ False) ∧ (decide (4 < (↑k : Int)) = false → ∃ (_ : Nat), True ∧ ((True ∧ 0 = 0) ∧ (True ∧ 0 = 0) ∧ (True ∧ 4 = k) ∧ True) ∧ True ∧
(2 * len ≤ 2 * len ∧ ∀ (i : Nat), i < 2 * len → g i = g i) ∧ True ∧ (km = km ∧ mm = mm ∧ True) ∧ True ∧ ((3 : Int) = 3 ∧ (True ∧ len = len) ∧ (True ∧ k = k) ∧ True) ∧ True ∧ ((True ∧ l0 = l0) ∧ (True ∧ l1 = l1) ∧ (True
∧ l2 = l2) ∧ (True ∧ l3 = l3) ∧ k = 4) ∧ True ∧ (2 * l0 ≤ 2 * l0 ∧ ∀ (i : Nat), i < 2 * l0 → fI g0 i = fI g0 i) ∧ True ∧ (2 * l1 ≤ 2 * l1 ∧ ∀ (i : Nat), i < 2
* l1 → fI g1 i = fI g1 i) ∧ True ∧ (2 * l2 ≤ 2 * l2 ∧ ∀ (i : Nat), i < 2 * l2 → fI g2 i = fI g2 i) ∧ True ∧ (2 * l3 ≤ 2 * l3 ∧ ∀ (i :
 Nat), i < 2 * l3 → fI g3 i = fI g3 i) ∧ True)) ∧ True) ∧ ∀ (_ : Nat), True → (2 * len = 2 * len ∧ len ≤ 1000000) ∧ (k = k ∧ 2 * len = 2 * len ∧ 2 * l0 = 2 * l0 ∧ 2 * l1 = 2 * l1 ∧ 2 * l2 = 2 * l2 ∧ 2 * l3 = 2 * l3 ∧ hab k l0 l1 l2 l3 ∧ km = (0 : Int) ∧ (len ≤ 1000000 ∧ (ppBig len true = true →
 ppOk (fI g) len)) ∧ (l0 ≤ 1000000 ∧ (ppBig l0 true = true → ppOk (fI g0) l0)) ∧ (l1 ≤ 1000000 ∧ (ppBig l1 true = true →
 ppOk (fI g1) l1)) ∧ (l2 ≤ 1000000 ∧ (ppBig l2 true = true → ppOk (fI g2) l2)) ∧ l3 ≤ 1000000 ∧ (ppBig l3 true = true →
 ppOk (fI g3) l3)) ∧ (True ∧ 0 = 0) ∧ True ∧ (137 = 137 ∧ 0 = 0 ∧ (True ∧ 0 = 0) ∧ (True ∧ k = k) ∧ True) ∧ True ∧ (106 = 106 ∧ 1 = 1 ∧ k = k ∧ (0 < k → True ∧ 0 = 0) ∧ (1 < k → True ∧ 0 = 0) ∧ (2 < k → True ∧ 0 = 0) ∧ (3 < k → True ∧ 0 = 0) ∧ True) ∧ True ∧ (150
= 150 ∧ 0 = 0 ∧ true = true ∧ (ppBig len true && fGt .f64 (cwF (fI g) len len) 0) = (ppBig len true && fGt .f64 (cwF
(fI g) len len) 0) ∧ (ppBig len true && !(dcF (fI g) len len).2) = (ppBig len true && !(dcF (fI g)
 len len).2) ∧ (0 : Int) = 0 ∧ True ∧ pick (ppBig len true) (rlo (fI g) 0 len) = pick (ppBig len true) (rlo
(fI g) 0 len) ∧ pick (ppBig len true) (rlo (fI g) 1 len) = pick (ppBig len true) (rlo
(fI g) 1 len) ∧ pick (ppBig len true) (rhi (fI g) 0 len) = pick (ppBig len true) (rhi
(fI g) 0 len) ∧ pick (ppBig len true) (rhi (fI g) 1 len) = pick (ppBig len true) (rhi
(fI g) 1 len) ∧ (True ∧ len = len) ∧ True) ∧ True ∧ (100 = 100 ∧ 2 = 2 ∧ 2 * len ≤ 2 * len ∧ ∀ (i : Nat), i < 2 * len → fI g i = fI
 g i) ∧ True ∧ (150 = 150 ∧ 0 = 0 ∧ pres k 0 10 = pres k 0 10 ∧ (0 < pres k 0 10 → true = true) ∧ (1
< pres k 0 10 → (ppBig l0 true && fGt .f64 (cwF (fI g0) l0 l0) 0) = (ppBig l0 true && fGt .f64 (cwF
(fI g0) l0 l0) 0)) ∧ (2 < pres k 0 10 → (ppBig l0 true && !(dcF (fI g0) l0 l0).2) = (ppBig l0 true &&
!(dcF (fI g0) l0 l0).2)) ∧ (3 < pres k 0 10 → (0 : Int) = 0) ∧ (4 < pres k 0 10 → True) ∧ (5 <
 pres k 0 10 → pick (ppBig l0 true) (rlo (fI g0) 0 l0) = pick (ppBig l0 true) (rlo
(fI g0) 0 l0)) ∧ (6 < pres k 0 10 → pick (ppBig l0 true) (rlo (fI g0) 1 l0) = pick
(ppBig l0 true) (rlo (fI g0) 1 l0)) ∧ (7 < pres k 0 10 → pick (ppBig l0 true) (rhi
(fI g0) 0 l0) = pick (ppBig l0 true) (rhi (fI g0) 0 l0)) ∧ (8 < pres k 0 10 → pick
(ppBig l0 true) (rhi (fI g0) 1 l0) = pick (ppBig l0 true) (rhi (fI g0) 1 l0)) ∧ (9 <
 pres k 0 10 → True ∧ l0 = l0) ∧ True) ∧ True ∧ (100 = 100 ∧ 2 = 2 ∧ 2 * l0 ≤ 2 * l0 ∧ ∀ (i : Nat), i < 2 * l0 → fI g0 i = fI
 g0 i) ∧ True ∧ (150 = 150 ∧ 0 = 0 ∧ pres k 1 10 = pres k 1 10 ∧ (0 < pres k 1 10 → true = true) ∧ (1
< pres k 1 10 → (ppBig l1 true && fGt .f64 (cwF (fI g1) l1 l1) 0) = (ppBig l1 true && fGt .f64 (cwF
(fI g1) l1 l1) 0)) ∧ (2 < pres k 1 10 → (ppBig l1 true && !(dcF (fI g1) l1 l1).2) = (ppBig l1 true &&
!(dcF (fI g1) l1 l1).2)) ∧ (3 < pres k 1 10 → (0 : Int) = 0) ∧ (4 < pres k 1 10 → True) ∧ (5 <
 pres k 1 10 → pick (ppBig l1 true) (rlo (fI g1) 0 l1) = pick (ppBig l1 true) (rlo
(fI g1) 0 l1)) ∧ (6 < pres k 1 10 → pick (ppBig l1 true) (rlo (fI g1) 1 l1) = pick
(ppBig l1 true) (rlo (fI g1) 1 l1)) ∧ (7 < pres k 1 10 → pick (ppBig l1 true) (rhi
(fI g1) 0 l1) = pick (ppBig l1 true) (rhi (fI g1) 0 l1)) ∧ (8 < pres k 1 10 → pick
(ppBig l1 true) (rhi (fI g1) 1 l1) = pick (ppBig l1 true) (rhi (fI g1) 1 l1)) ∧ (9 <
 pres k 1 10 → True ∧ l1 = l1) ∧ True) ∧ True ∧ (100 = 100 ∧ 2 = 2 ∧ 2 * l1 ≤ 2 * l1 ∧ ∀ (i : Nat), i < 2 * l1 → fI g1 i = fI
 g1 i) ∧ True ∧ (150 = 150 ∧ 0 = 0 ∧ pres k 2 10 = pres k 2 10 ∧ (0 < pres k 2 10 → true = true) ∧ (1
< pres k 2 10 → (ppBig l2 true && fGt .f64 (cwF (fI g2) l2 l2) 0) = (ppBig l2 true && fGt .f64 (cwF
(fI g2) l2 l2) 0)) ∧ (2 < pres k 2 10 → (ppBig l2 true && !(dcF (fI g2) l2 l2).2) = (ppBig l2 true &&
!(dcF (fI g2) l2 l2).2)) ∧ (3 < pres k 2 10 → (0 : Int) = 0) ∧ (4 < pres k 2 10 → True) ∧ (5 <
 pres k 2 10 → pick (ppBig l2 true) (rlo (fI g2) 0 l2) = pick (ppBig l2 true) (rlo
(fI g2) 0 l2)) ∧ (6 < pres k 2 10 → pick (ppBig l2 true) (rlo (fI g2) 1 l2) = pick
(ppBig l2 true) (rlo (fI g2) 1 l2)) ∧ (7 < pres k 2 10 → pick (ppBig l2 true) (rhi
(fI g2) 0 l2) = pick (ppBig l2 true) (rhi (fI g2) 0 l2)) ∧ (8 < pres k 2 10 → pick
(ppBig l2 true) (rhi (fI g2) 1 l2) = pick (ppBig l2 true) (rhi (fI g2) 1 l2)) ∧ (9 <
 pres k 2 10 → True ∧ l2 = l2) ∧ True) ∧ True ∧ (100 = 100 ∧ 2 = 2 ∧ 2 * l2 ≤ 2 * l2 ∧ ∀ (i : Nat), i < 2 * l2 → fI g2 i = fI
 g2 i) ∧ True ∧ (150 = 150 ∧ 0 = 0 ∧ pres k 3 10 = pres k 3 10 ∧ (0 < pres k 3 10 → true = true) ∧ (1
< pres k 3 10 → (ppBig l3 true && fGt .f64 (cwF (fI g3) l3 l3) 0) = (ppBig l3 true && fGt .f64 (cwF
(fI g3) l3 l3) 0)) ∧ (2 < pres k 3 10 → (ppBig l3 true && !(dcF (fI g3) l3 l3).2) = (ppBig l3 true &&
!(dcF (fI g3) l3 l3).2)) ∧ (3 < pres k 3 10 → (0 : Int) = 0) ∧ (4 < pres k 3 10 → True) ∧ (5 <
 pres k 3 10 → pick (ppBig l3 true) (rlo (fI g3) 0 l3) = pick (ppBig l3 true) (rlo
(fI g3) 0 l3)) ∧ (6 < pres k 3 10 → pick (ppBig l3 true) (rlo (fI g3) 1 l3) = pick
(ppBig l3 true) (rlo (fI g3) 1 l3)) ∧ (7 < pres k 3 10 → pick (ppBig l3 true) (rhi
(fI g3) 0 l3) = pick (ppBig l3 true) (rhi (fI g3) 0 l3)) ∧ (8 < pres k 3 10 → pick
(ppBig l3 true) (rhi (fI g3) 1 l3) = pick (ppBig l3 true) (rhi (fI g3) 1 l3)) ∧ (9 <
 pres k 3 10 → True ∧ l3 = l3) ∧ True) ∧ True ∧ (100 = 100 ∧ 2 = 2 ∧ 2 * l3 ≤ 2 * l3 ∧ ∀ (i : Nat), i < 2 * l3 → fI g3 i = fI
 g3 i) ∧ True) ∧ (true = false → False)))) := by kernel_rfl
theorem shPU : ConOk Tryz.prog 63 (conR shPUC) := by
 refine con_of_vc gSPU Tryz.func63 rfl (by kernel_rfl) fun args => ?_
 unfold shPUC
 split
 · rename_i n len h k1 o
   intro o0
   show RdM.All _ (match intsFrom .i64 o0.c with | some (m, g) => _ | none => _) _
   split
   · rename_i m0 g hm0
     intro o1
     show RdM.All _ (match holU o1.c with | some (k, q0, l0, q1, l1, q2, l2, q3, l3) => _ | none => _) _
     split
     · rename_i k q0 l0 q1 l1 q2 l2 q3 l3 hm1
       intro o2
       show RdM.All _ (match intsFrom .i64 o2.c with | some (m, g) => _ | none => _) _
       split
       · rename_i m2 g0 hm2
         intro o3
         show RdM.All _ (match intsFrom .i64 o3.c with | some (m, g) => _ | none => _) _
         split
         · rename_i m3 g1 hm3
           intro o4
           show RdM.All _ (match intsFrom .i64 o4.c with | some (m, g) => _ | none => _) _
           split
           · rename_i m4 g2 hm4
             intro o5
             show RdM.All _ (match intsFrom .i64 o5.c with | some (m, g) => _ | none => _) _
             split
             · rename_i m5 g3 hm5
               intro o6
               show RdM.All _ (match optOf o6.c with | some (km, mm) => _ | none => _) _
               split
               · rename_i km mm hm6
                 intro ho
                 replace ho : k = k1 ∧ m0 = 2 * len ∧ m2 = 2 * l0 ∧ m3 = 2 * l1 ∧ m4 = 2 * l2 ∧ m5 = 2 * l3 ∧ hab k l0 l1 l2 l3 ∧ km = 0 ∧ (len ≤ 1000000 ∧ (ppBig len true = true → ppOk (fI g) len)) ∧ (l0 ≤ 1000000 ∧ (ppBig l0 true = true → ppOk (fI g0) l0)) ∧ (l1 ≤ 1000000 ∧ (ppBig l1 true = true → ppOk (fI g1) l1)) ∧ (l2 ≤ 1000000 ∧ (ppBig l2 true = true → ppOk (fI g2) l2)) ∧ (l3 ≤ 1000000 ∧ (ppBig l3 true = true → ppOk (fI g3) l3)) := ho
                 obtain ⟨heq0, hsz0, hsz2, hsz3, hsz4, hsz5, ho⟩ := ho
                 subst heq0
                 subst hsz0
                 subst hsz2
                 subst hsz3
                 subst hsz4
                 subst hsz5
                 refine ⟨?_, _, _, (vc_shPU len km mm k l0 l1 l2 l3 q0 q1 q2 q3 g g0 g1 g2 g3).mpr ?_⟩
                 · refine okFlag_mk rfl ⟨?_, ⟨trivial, (contR_ints hm0).1, ⟨trivial, holU_spec hm1 (by simp [sgSig, fsts, nth, sameN_self]) (by simp [sgSig, fsts, nth, sameN_self]) (by simp [sgSig, fsts, nth, sameN_self]) (by simp [sgSig, fsts, nth, sameN_self]), ⟨trivial, (contR_ints hm2).1, ⟨trivial, (contR_ints hm3).1, ⟨trivial, (contR_ints hm4).1, ⟨trivial, (contR_ints hm5).1, ⟨trivial, optOf_spec hm6, trivial⟩⟩⟩⟩⟩⟩⟩⟩
                   simp [eqvRL, eqvR, kEq_self, sgSig, fsts, nth, sameN_self]
                 · obtain ⟨ha, hk, h1, ⟨c0, d0⟩, ⟨c1, d1⟩, ⟨c2, d2⟩, c3, d3⟩ := ho
                   have ha' := ha
                   obtain ⟨h4, a0, a1, a2, a3⟩ := ha
                   simp only [hk, h1, c0, c1, c2, c3, true_and, and_true, implies_true, true_implies, eq_self, Nat.le_refl, and_self]
                   have hk5 : k = 0 ∨ k = 1 ∨ k = 2 ∨ k = 3 ∨ k = 4 := by omega
                   clear h4
                   rcases hk5 with rfl | rfl | rfl | rfl | rfl
                   all_goals simp_all +contextual [hab]
               · trivial
             · trivial
           · trivial
         · trivial
       · trivial
     · trivial
   · trivial
 · trivial
end Go.Proofs.Tryz.Sx
