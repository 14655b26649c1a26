/- Parts of a proof, in order: what each says stands at its head. No conditions. -/
import Derived.ProofKit
import Derived.Lib.SmallJoins
import Derived.Deep.Slices
import Derived.Test.YtfhkmkhcofodmaaGreatM4
import Derived.Test.YtfhkmkhcofodmaaGreatM3
/- Series, moved. -/
namespace Go.Proofs.Tryz.Sx
open Go Go.Sx Go.Proofs Go.Fl Go.Geo
set_option maxRecDepth 100000

def mvd (g : Nat → Nat) (dx dy : Nat) (j : Nat) : Nat := fop .add .f64 (g j) (if j % 2 = 0 then dx else dy)
/-- The first i points moved. -/
def mvI (g : Nat → Nat) (dx dy i : Nat) : Nat → Nat := fun j => if j < 2 * i then mvd g dx dy j else 0
noncomputable def GMV : Ctx := ⟨⟨tys, []⟩, [(92, conR mkKeepC), (105, conR sIdxC), (103, conR buildNoC)]⟩
theorem gMV : CtxOk Tryz.prog GMV := ⟨⟨tysOk, FlatsOk.nil⟩, GamOk.cons mkKeep (GamOk.cons sIdx (GamOk.cons buildNo GamOk.nil)), by kernel_rfl⟩
def mvL (cl cw cv : Bool) (k : Int) (x y z w n : Nat) (dx dy : Nat) (g : Nat → Nat) : Fam := ⟨Nat, fun i =>
  ⟨69, [(0, .ptr 0 0), (1, .flt .f64 dx), (2, .flt .f64 dy), (7, .slcc 2 n), (8, .int .i64 i)], [(0, ⟨false, 150, serC cl cw cv k x y z w 1 n, 0⟩), (1, ⟨false, 100, .flts .f64 (2 * n) g, 0⟩), (2, ⟨true, 100, .flts .f64 (2 * n) (mvI g dx dy i), 2⟩)], 3⟩, fun i => i ≤ n, fun i => n - i⟩

theorem mv_step (g : Nat → Nat) (dx dy i j : Nat) : upd (upd (mvI g dx dy i) (2 * i) (fop .add .f64 (g (2 * i)) dx)) (2 * i + 1) (fop .add .f64 (g (2 * i + 1)) dy) j = mvI g dx dy (i + 1) j := by
  have h : j = 2 * i + 1 ∨ j = 2 * i ∨ (j < 2 * i) ∨ (2 * i + 1 < j) := by omega
  unfold upd mvI
  rcases h with rfl | rfl | h | h
  · rw [if_pos rfl, if_pos (by omega)]
    unfold mvd
    rw [if_neg (show ¬ (2 * i + 1) % 2 = 0 by omega)]
  · rw [if_neg (by omega), if_pos rfl, if_pos (by omega)]
    unfold mvd
    rw [if_pos (show (2 * i) % 2 = 0 by omega)]
  · rw [if_neg (by omega), if_neg (by omega), if_pos h, if_pos (by omega)]
  · rw [if_neg (by omega), if_neg (by omega), if_neg (by omega), if_neg (by omega)]

noncomputable def sMoveC : List SV → RdM
  | [.ptr s 0, .flt .f64 dx, .flt .f64 dy] => .read s fun o0 => (match serOf o0.c with
    | some (cl, cw, cv, k, x, y, z, w, p, n) => .read p fun o1 => (match fltsFrom .f64 o1.c with
    | some (m1, g) => .ret ⟨[.ptr 0 0, .flt .f64 dx, .flt .f64 dy], [(0, ⟨false, 150, serC cl cw cv k x y z w 1 n, 0⟩), (1, ⟨false, 100, .flts .f64 m1 g, 0⟩)], .ifc 157 (.ptr 2 0), [], [(2, ⟨true, 150, .cells (rectS n cl (mvI g dx dy n) 3 k), 0⟩), (3, ⟨true, 100, .flts .f64 (2 * n) (mvI g dx dy n), 2⟩)], some (m1 = 2 * n ∧ n < 64 ∧ (∀ j, j < 2 * n → fok .add .f64 (g j) (if j % 2 = 0 then dx else dy)) ∧ (ppBig n cl = true → ppOk (mvI g dx dy n) n))⟩
    | none => .fail)
    | none => .fail)
  | _ => .fail
theorem vc_sMove (cl cw cv : Bool) (k : Int) (x y z w : Nat) (_ : Nm) (n : Nat) (dx dy : Nat)  (g : Nat → Nat) : runA GMV 2 [(3, mvL cl cw cv k x y z w n dx dy g)] [] (codeOf Tryz.f95) (init Tryz.f95.ntmps [.ptr 0 0, .flt .f64 dx, .flt .f64 dy] [(0, ⟨false, 150, serC cl cw cv k x y z w 1 n, 0⟩), (1, ⟨false, 100, .flts .f64 (2 * n) g, 0⟩)] 2) (endK GMV.E.T Tryz.f95.results.toList fun S v => postP 2 ⟨[.ptr 0 0, .flt .f64 dx, .flt .f64 dy], [(0, ⟨false, 150, serC cl cw cv k x y z w 1 n, 0⟩), (1, ⟨false, 100, .flts .f64 (2 * n) g, 0⟩)], .ifc 157 (.ptr 2 0), [], [(2, ⟨true, 150, .cells (rectS n cl (mvI g dx dy n) 3 k), 0⟩), (3, ⟨true, 100, .flts .f64 (2 * n) (mvI g dx dy n), 2⟩)], some (2 * n = 2 * n ∧ n < 64 ∧ (∀ j, j < 2 * n → fok .add .f64 (g j) (if j % 2 = 0 then dx else dy)) ∧ (ppBig n cl = true → ppOk (mvI g dx dy n) n))⟩ S v) = (
((↑n : Int) = (↑n : Int) ∧ (0 : Int) ≤ (↑n : Int) ∧ (↑n : Int) ≤ (9223372036854775807 : Int) ∧ (↑n : Int) * (16 : Int) ≤ (140737488355328 : Int)) ∧ (∃ (i : Nat), i ≤ n ∧ ((True ∧ 0 = 0) ∧ dx = dx ∧ dy = dy ∧ (True ∧ Int.toNat (↑n :
 Int) = n) ∧ (0 : Int) = (↑i : Int) ∧ True) ∧ True ∧ (cl = cl ∧ cw = cw ∧ cv = cv ∧ k = k ∧ True ∧ x = x ∧ y = y ∧ z = z ∧ w = w ∧ (True ∧ n = n) ∧ True) ∧ True ∧ (2 * n ≤ 2 * n ∧ ∀ (i : Nat), i < 2 * n → g i = g i) ∧ True ∧
(100 = 100 ∧ 2 = 2 ∧ 2 * n ≤ Int.toNat (↑n : Int) * 2 ∧ ∀ (i_1 : Nat), i_1 < 2 * n → 0 = mvI g dx dy i i_1) ∧ True) ∧ ∀ (i : Nat), i ≤ n → (decide ((↑i : Int) < (↑n :
 Int)) = true → (((0 : Int) ≤ (↑i : Int) ∧ (↑i : Int) < (↑n : Int)) ∧ 1 ≤ 2 * n) ∧ 0 < 2 * n ∧ 0 + Int.toNat (↑i : Int) * 2 + 0 + 1 ≤ 2 * n ∧ Go.Sx.fok BinOp.add .f64 (g (0 + Int.toNat (↑i : Int) * 2 + 0)) dx ∧ (((0 : Int) ≤ (↑i : Int) ∧ (↑i : Int) < (↑n : Int)) ∧ 1 ≤ 2 * n) ∧ 0 < 2 * n ∧ 0 + Int.toNat (↑i : Int) * 2 + 0 + 1 ≤ 2
* n ∧ (((0 : Int) ≤ (↑i : Int) ∧ (↑i : Int) < (↑n : Int)) ∧ 1 ≤ 2 * n) ∧ 0 < 2 * n ∧ 0 + Int.toNat (↑i : Int) * 2 + 1 + 1 ≤ 2 * n ∧ Go.Sx.fok BinOp.add .f64 (g (0 +
 Int.toNat (↑i : Int) * 2 + 1)) dy ∧ (((0 : Int) ≤ (↑i : Int) ∧ (↑i : Int) < (↑n : Int)) ∧ 1 ≤ 2 * n) ∧ 0 < 2 * n ∧ 0 + Int.toNat (↑i : Int) * 2 + 1 + 1 ≤ 2 * n ∧
∃ (i' : Nat), i' ≤ n ∧ n - i' < n - i ∧ ((True ∧ 0 = 0) ∧ dx = dx ∧ dy = dy ∧ (True ∧ n = n) ∧ Go.IntKind.wrap .i64 ((↑i : Int) + (1 : Int)) = (↑i' : Int) ∧ True) ∧ True ∧ (cl = cl ∧ cw = cw ∧ cv = cv ∧ k = k ∧ True ∧ x = x ∧ y = y ∧
 z = z ∧ w = w ∧ (True ∧ n = n) ∧ True) ∧ True ∧ (2 * n ≤ 2 * n ∧ ∀ (i : Nat), i < 2 * n → g i = g i) ∧ True ∧ (100 = 100 ∧ 2 = 2 ∧ 2 * n ≤ 2 * n ∧ ∀ (i_1 : Nat), i_1 < 2
* n → Go.Sx.upd (Go.Sx.upd (mvI g dx dy i) (0 + Int.toNat (↑i : Int) * 2 + 0) (Go.Sx.fop BinOp.add .f64 (g (0 + Int.toNat (↑i : Int) * 2 + 0)) dx)) (0 + Int.toNat (↑i : Int) *
2 + 1) (Go.Sx.fop BinOp.add .f64 (g (0 + Int.toNat (↑i : Int) * 2 + 1)) dy) i_1 = mvI g dx dy i' i_1) ∧ True) ∧ (decide ((↑i : Int) < (↑n : Int)) = false → (2 * n = 2 * n ∧ n <
64 ∧ (ppBig n cl = true → ppOk (mvI g dx dy i) n)) ∧ (2 * n = 2 * n ∧ True) ∧ (True ∧ 0 = 0) ∧ True ∧ (150 = 150 ∧ 0 = 0 ∧
 cl = cl ∧ (ppBig n cl && Go.Sx.fGt .f64 (cwF (mvI g dx dy i) n n) 0) = (ppBig n cl && Go.Sx.fGt .f64 (cwF (mvI g dx dy n) n n) 0) ∧ (ppBig n cl && !Prod.snd (dcF (mvI g dx dy i) n n)) = (ppBig n cl && !Prod.snd (dcF (mvI g dx dy n) n n)) ∧ k = k ∧ True ∧
 pick (ppBig n cl) (rlo (mvI g dx dy i) 0 n) = pick (ppBig n cl) (rlo (mvI g dx dy n) 0 n)
∧ pick (ppBig n cl) (rlo (mvI g dx dy i) 1 n) = pick (ppBig n cl) (rlo (mvI g dx dy n) 1
 n) ∧ pick (ppBig n cl) (rhi (mvI g dx dy i) 0 n) = pick (ppBig n cl) (rhi (mvI g dx dy n) 0 n) ∧ pick (ppBig n cl) (rhi (mvI g dx dy i) 1 n) = pick (ppBig n cl) (rhi (mvI g dx dy n) 1 n) ∧ (True ∧ n = n) ∧ True) ∧ True ∧ (100 = 100 ∧ 2 = 2 ∧ 2 * n ≤ 2 * n ∧ ∀ (i_1 : Nat), i_1 < 2 * n → mvI g dx dy i i_1 = mvI g dx dy n i_1) ∧ True)) := by kernel_rfl
theorem sMove : ConOk Tryz.prog 95 (conR sMoveC) := by
  refine con_of_vc gMV Tryz.func95 rfl (by kernel_rfl) fun args => ?_
  unfold sMoveC
  split
  · rename_i s dx dy
    intro o0
    show RdM.All _ (match serOf o0.c with | some (cl, cw, cv, k, x, y, z, w, p, n) => _ | none => _) _
    split
    · rename_i cl cw cv k x y z w p n hm0
      intro o1
      show RdM.All _ (match fltsFrom .f64 o1.c with | some (m, g) => _ | none => _) _
      split
      · rename_i m1 g hm1
        intro ho
        replace ho : m1 = 2 * n ∧ n < 64 ∧ (∀ j, j < 2 * n → fok .add .f64 (g j) (if j % 2 = 0 then dx else dy)) ∧ (ppBig n cl = true → ppOk (mvI g dx dy n) n) := ho
        obtain ⟨hsz1, ho⟩ := ho
        subst hsz1
        refine ⟨?_, _, _, (vc_sMove cl cw cv k x y z w p n dx dy g).mpr ?_⟩
        · refine okFlag_mk rfl ⟨?_, ⟨trivial, serOf_spec hm0 (by simp [sgSig, fsts, nth, sameN_self]), ⟨trivial, (contR_flts hm1).1, trivial⟩⟩⟩
          simp [eqvRL, eqvR, fkEq_self, sgSig, fsts, nth, sameN_self]
        · obtain ⟨hn, hf, hok⟩ := ho
          have l2 : (n : Int) ≤ 9223372036854775807 := by omega
          have l3 : (n : Int) * 16 ≤ 140737488355328 := by omega
          refine ⟨by simp [l2, l3], ⟨0, by omega, by simp [mvI]; omega⟩, fun i hi => ⟨fun h => ?_, fun h => ?_⟩⟩
          · have h := of_decide_eq_true h
            have e : i * 2 = 2 * i := by omega
            have hw : IntKind.i64.wrap ((i : Int) + 1) = ((i + 1 : Nat) : Int) := by rw [wrap64 (by omega) (by omega)]; omega
            have f0 : fok .add .f64 (g (2 * i)) dx := by
              have := hf (2 * i) (by omega)
              rwa [if_pos (by omega)] at this
            have f1 : fok .add .f64 (g (2 * i + 1)) dy := by
              have := hf (2 * i + 1) (by omega)
              rwa [if_neg (by omega)] at this
            simp only [Int.toNat_natCast, e, hw, Nat.zero_add, Nat.add_zero, true_and, and_true, implies_true, Nat.le_refl]
            refine ⟨by omega, by omega, by omega, f0, by omega, by omega, by omega, by omega, by omega, by omega, f1, by omega, by omega, by omega, i + 1, by omega, by omega, ?_⟩
            simp [mv_step]
          · have h := of_decide_eq_false h
            have : i = n := by omega
            subst this
            simp [hn]
            exact hok
      · trivial
    · trivial
  · trivial
end Go.Proofs.Tryz.Sx

/- A line, moved; a series' points as whole numbers. -/
namespace Go.Proofs.Tryz.Sx
open Go Go.Sx Go.Proofs Go.Fl Go.Geo
set_option maxRecDepth 100000

noncomputable def GLM : Ctx := ⟨⟨tys, []⟩, [(95, conR sMoveC)]⟩
theorem gLM : CtxOk Tryz.prog GLM := ⟨⟨tysOk, FlatsOk.nil⟩, GamOk.cons sMove GamOk.nil, by kernel_rfl⟩
noncomputable def lMoveC : List SV → RdM
  | [.ptr s 0, .flt .f64 dx, .flt .f64 dy] => .read s fun o0 => (match serOf o0.c with
    | some (cl, cw, cv, k, x, y, z, w, p, n) => .read p fun o1 => (match fltsFrom .f64 o1.c with
    | some (m1, g) => .ret ⟨[.ptr 0 0, .flt .f64 dx, .flt .f64 dy], [(0, ⟨false, 150, serC cl cw cv k x y z w 1 n, 0⟩), (1, ⟨false, 100, .flts .f64 m1 g, 0⟩)], .ptr 2 0, [], [(2, ⟨true, 152, .cells (rectS n cl (mvI g dx dy n) 3 k), 0⟩), (3, ⟨true, 100, .flts .f64 (2 * n) (mvI g dx dy n), 2⟩)], some (m1 = 2 * n ∧ n < 64 ∧ (∀ j, j < 2 * n → fok .add .f64 (g j) (if j % 2 = 0 then dx else dy)) ∧ (ppBig n cl = true → ppOk (mvI g dx dy n) n))⟩
    | none => .fail)
    | none => .fail)
  | _ => .fail
theorem vc_lMove (cl cw cv : Bool) (k : Int) (x y z w : Nat) (_ : Nm) (n : Nat) (dx dy : Nat)  (g : Nat → Nat) : runA GLM 2 [] [] (codeOf Tryz.f84) (init Tryz.f84.ntmps [.ptr 0 0, .flt .f64 dx, .flt .f64 dy] [(0, ⟨false, 150, serC cl cw cv k x y z w 1 n, 0⟩), (1, ⟨false, 100, .flts .f64 (2 * n) g, 0⟩)] 2) (endK GLM.E.T Tryz.f84.results.toList fun S v => postP 2 ⟨[.ptr 0 0, .flt .f64 dx, .flt .f64 dy], [(0, ⟨false, 150, serC cl cw cv k x y z w 1 n, 0⟩), (1, ⟨false, 100, .flts .f64 (2 * n) g, 0⟩)], .ptr 2 0, [], [(2, ⟨true, 152, .cells (rectS n cl (mvI g dx dy n) 3 k), 0⟩), (3, ⟨true, 100, .flts .f64 (2 * n) (mvI g dx dy n), 2⟩)], some (2 * n = 2 * n ∧ n < 64 ∧ (∀ j, j < 2 * n → fok .add .f64 (g j) (if j % 2 = 0 then dx else dy)) ∧ (ppBig n cl = true → ppOk (mvI g dx dy n) n))⟩ S v) = (
(2 * n = 2 * n ∧ n < 64 ∧ (∀ (j : Nat), j < 2 * n → Go.Sx.fok BinOp.add .f64 (g j) (if j % 2 = 0 then dx else dy)) ∧ (ppBig n cl = true → ppOk (mvI
 g dx dy n) n)) ∧ (True ∧ 0 = 0) ∧ True ∧ (152 = 152 ∧ 0 = 0 ∧ cl = cl ∧ (ppBig n cl && Go.Sx.fGt .f64 (cwF (mvI g dx dy n) n n) 0) =
(ppBig n cl && Go.Sx.fGt .f64 (cwF (mvI g dx dy n) n n) 0) ∧ (ppBig n cl && !Prod.snd (dcF (mvI g dx dy n) n n)) =
(ppBig n cl && !Prod.snd (dcF (mvI g dx dy n) n n)) ∧ k = k ∧ True ∧ pick (ppBig n cl) (rlo (mvI g dx dy n) 0 n) =
 pick (ppBig n cl) (rlo (mvI g dx dy n) 0 n) ∧ pick (ppBig n cl) (rlo (mvI g dx dy n) 1 n)
= pick (ppBig n cl) (rlo (mvI g dx dy n) 1 n) ∧ pick (ppBig n cl) (rhi (mvI g dx dy n) 0
 n) = pick (ppBig n cl) (rhi (mvI g dx dy n) 0 n) ∧ pick (ppBig n cl) (rhi (mvI g dx dy n) 1 n) = pick (ppBig n cl) (rhi (mvI g dx dy n) 1 n) ∧ (True ∧ n = n) ∧ True) ∧ True ∧ (100 = 100 ∧ 2 = 2 ∧ 2 * n ≤ 2 * n
∧ ∀ (i : Nat), i < 2 * n → mvI g dx dy n i = mvI g dx dy n i) ∧ True) := by kernel_rfl
theorem lMove : ConOk Tryz.prog 84 (conR lMoveC) := by
  refine con_of_vc gLM Tryz.func84 rfl (by kernel_rfl) fun args => ?_
  unfold lMoveC
  split
  · rename_i s dx dy
    intro o0
    show RdM.All _ (match serOf o0.c with | some (cl, cw, cv, k, x, y, z, w, p, n) => _ | none => _) _
    split
    · rename_i cl cw cv k x y z w p n hm0
      intro o1
      show RdM.All _ (match fltsFrom .f64 o1.c with | some (m, g) => _ | none => _) _
      split
      · rename_i m1 g hm1
        intro ho
        replace ho : m1 = 2 * n ∧ n < 64 ∧ (∀ j, j < 2 * n → fok .add .f64 (g j) (if j % 2 = 0 then dx else dy)) ∧ (ppBig n cl = true → ppOk (mvI g dx dy n) n) := ho
        obtain ⟨hsz1, ho⟩ := ho
        subst hsz1
        refine ⟨?_, _, _, (vc_lMove cl cw cv k x y z w p n dx dy g).mpr ?_⟩
        · refine okFlag_mk rfl ⟨?_, ⟨trivial, serOf_spec hm0 (by simp [sgSig, fsts, nth, sameN_self]), ⟨trivial, (contR_flts hm1).1, trivial⟩⟩⟩
          simp [eqvRL, eqvR, fkEq_self, sgSig, fsts, nth, sameN_self]
        · obtain ⟨hn, hf, hok⟩ := ho
          simp [hn]
          exact ⟨hf, hok⟩
      · trivial
    · trivial
  · trivial

noncomputable def GPS : Ctx := ⟨⟨tys, []⟩, [(205, conR sNumPC), (206, conR sPtC), (80, pureCon fromPF)]⟩
theorem gPS : CtxOk Tryz.prog GPS := ⟨⟨tysOk, FlatsOk.nil⟩, GamOk.cons sNumP (GamOk.cons sPt (GamOk.cons (.pure fromP) GamOk.nil)), by kernel_rfl⟩
def wI (g : Nat → Nat) (j : Nat) : Int := toI .f64 (g j) .i64
def plL (cl cw cv : Bool) (k : Int) (x y z w n : Nat) (g : Nat → Nat) : Fam := ⟨Nat, fun i =>
  ⟨19, [(0, .ifc 116 (.ptr 0 0)), (3, .slcc 2 i), (4, .int .i64 i)], [(0, ⟨false, 150, serC cl cw cv k x y z w 1 n, 0⟩), (1, ⟨false, 100, .flts .f64 (2 * n) g, 0⟩), (2, ⟨true, 23, .ints .i64 (2 * i) (wI g), 2⟩)], 3⟩, fun i => i ≤ n, fun i => n - i⟩
noncomputable def plainC : List SV → RdM
  | [.ifc 116 (.ptr s 0)] => .read s fun o0 => (match serOf o0.c with
    | some (cl, cw, cv, k, x, y, z, w, p, n) => .read p fun o1 => (match fltsFrom .f64 o1.c with
    | some (m1, g) => .ret ⟨[.ifc 116 (.ptr 0 0)], [(0, ⟨false, 150, serC cl cw cv k x y z w 1 n, 0⟩), (1, ⟨false, 100, .flts .f64 m1 g, 0⟩)], .slcc 2 n, [], [(2, ⟨true, 23, .ints .i64 (2 * n) (wI g), 2⟩)], some (m1 = 2 * n ∧ n ≤ 1000000 ∧ (∀ j, j < 2 * n → toIok .f64 (g j) .i64))⟩
    | none => .fail)
    | none => .fail)
  | _ => .fail
theorem vc_plain (cl cw cv : Bool) (k : Int) (x y z w : Nat) (_ : Nm) (n : Nat)  (g : Nat → Nat) : runA GPS 2 [(3, plL cl cw cv k x y z w n g)] [] (codeOf Tryz.f83) (init Tryz.f83.ntmps [.ifc 116 (.ptr 0 0)] [(0, ⟨false, 150, serC cl cw cv k x y z w 1 n, 0⟩), (1, ⟨false, 100, .flts .f64 (2 * n) g, 0⟩)] 2) (endK GPS.E.T Tryz.f83.results.toList fun S v => postP 2 ⟨[.ifc 116 (.ptr 0 0)], [(0, ⟨false, 150, serC cl cw cv k x y z w 1 n, 0⟩), (1, ⟨false, 100, .flts .f64 (2 * n) g, 0⟩)], .slcc 2 n, [], [(2, ⟨true, 23, .ints .i64 (2 * n) (wI g), 2⟩)], some (2 * n = 2 * n ∧ n ≤ 1000000 ∧ (∀ j, j < 2 * n → toIok .f64 (g j) .i64))⟩ S v) = (
(∃ (i : Nat), i ≤ n ∧ ((True ∧ 0 = 0) ∧ i = 0 ∧ (0 : Int) = (↑i : Int) ∧ True) ∧ True ∧ (cl = cl ∧ cw = cw ∧ cv = cv ∧ k = k ∧ True ∧ x = x ∧ y = y ∧ z = z ∧ w = w ∧ (True ∧ n = n) ∧ True) ∧ True ∧ (2 * n ≤ 2 *
 n ∧ ∀ (i : Nat), i < 2 * n → g i = g i) ∧ True ∧ 2 * i = 0 ∧ True) ∧ ∀ (i : Nat), i ≤ n → (2 * n = 2 * n ∧ True) ∧ (decide ((↑i : Int) < (↑n : Int)) = true → (2 * n = 2 * n ∧ (0 : Int) ≤ (↑i :
 Int) ∧ (↑i : Int) < (↑n : Int)) ∧ (Go.Sx.toIok .f64 (g (2 * Int.toNat (↑i : Int))) .i64 ∧ Go.Sx.toIok .f64 (g (2 * Int.toNat (↑i : Int) + 1)) .i64) ∧ (2 * i = i * 2 ∧ (i + 1) * 16 ≤
140737488355328 ∧ i + 1 ≤ 9223372036854775807) ∧ ∃ (i' : Nat), i' ≤ n ∧ n - i' < n - i ∧ ((True ∧ 0 = 0) ∧ (True ∧ i + 1 = i') ∧ Go.IntKind.wrap .i64 ((↑i : Int) + (1 : Int)) = (↑i' : Int) ∧ True) ∧
 True ∧ (cl = cl ∧ cw = cw ∧ cv = cv ∧ k = k ∧ True ∧ x = x ∧ y = y ∧ z = z ∧ w = w ∧ (True ∧ n = n) ∧ True) ∧ True ∧ (2 * n ≤ 2 * n ∧ ∀ (i : Nat), i < 2 * n → g i = g i) ∧ True ∧ (23 = 23 ∧ 2 = 2 ∧ 2 * i' ≤ 2 * i + List.length [Go.Sx.toI .f64 (g (2 * Int.toNat (↑i : Int))) .i64, Go.Sx.toI .f64 (g (2 * Int.toNat (↑i : Int) + 1)) .i64] ∧ ∀ (i_1 : Nat), i_1 < 2 * i' → Go.Sx.more (2 *
 i) (wI g) [Go.Sx.toI .f64 (g (2 * Int.toNat (↑i : Int))) .i64, Go.Sx.toI .f64 (g (2 * Int.toNat (↑i : Int) + 1)) .i64] (0 : Int) i_1 = wI g i_1) ∧ True) ∧ (decide ((↑i : Int) < (↑n : Int)) =
 false → (True ∧ i = n) ∧ True ∧ (23 = 23 ∧ 2 = 2 ∧ 2 * n ≤ 2 * i ∧ ∀ (i : Nat), i < 2 * n → wI g i = wI g i) ∧ True)) := by kernel_rfl
theorem plain : ConOk Tryz.prog 83 (conR plainC) := by
  refine con_of_vc gPS Tryz.func83 rfl (by kernel_rfl) fun args => ?_
  unfold plainC
  split
  · rename_i s
    intro o0
    show RdM.All _ (match serOf o0.c with | some (cl, cw, cv, k, x, y, z, w, p, n) => _ | none => _) _
    split
    · rename_i cl cw cv k x y z w p n hm0
      intro o1
      show RdM.All _ (match fltsFrom .f64 o1.c with | some (m, g) => _ | none => _) _
      split
      · rename_i m1 g hm1
        intro ho
        replace ho : m1 = 2 * n ∧ n ≤ 1000000 ∧ (∀ j, j < 2 * n → toIok .f64 (g j) .i64) := ho
        obtain ⟨hsz1, ho⟩ := ho
        subst hsz1
        refine ⟨?_, _, _, (vc_plain cl cw cv k x y z w p n g).mpr ?_⟩
        · refine okFlag_mk rfl ⟨?_, ⟨trivial, serOf_spec hm0 (by simp [sgSig, fsts, nth, sameN_self]), ⟨trivial, (contR_flts hm1).1, trivial⟩⟩⟩
          simp [eqvRL, eqvR, sgSig, fsts, nth, sameN_self]
        · obtain ⟨hn, hf⟩ := ho
          refine ⟨⟨0, by omega, by simp⟩, fun i hi => ?_⟩
          simp only [true_and, and_true, implies_true, Nat.le_refl]
          refine ⟨fun h => ?_, fun h => ?_⟩
          · have h := of_decide_eq_true h
            have hw : IntKind.i64.wrap ((i : Int) + 1) = ((i + 1 : Nat) : Int) := by rw [wrap64 (by omega) (by omega)]; omega
            refine ⟨by omega, ⟨hf _ (by omega), hf _ (by omega)⟩, by omega, i + 1, by omega, by omega, ⟨rfl, hw⟩, ?_, more_two rfl rfl⟩
            show 2 * (i + 1) ≤ 2 * i + 2
            omega
          · have h := of_decide_eq_false h
            omega
      · trivial
    · trivial
  · trivial
end Go.Proofs.Tryz.Sx

/- Points, rectangles, options; points as floats. -/
namespace Go.Proofs.Tryz.Sx
open Go Go.Sx Go.Proofs Go.Fl Go.Geo
set_option maxRecDepth 100000

def pMoveF : PF := fun
  | [.agg [.flt .f64 x, .flt .f64 y], .flt .f64 dx, .flt .f64 dy] => some (.agg [.flt .f64 (fop .add .f64 x dx), .flt .f64 (fop .add .f64 y dy)], some (fok .add .f64 x dx ∧ fok .add .f64 y dy))
  | _ => none
theorem vc_pMove (R : SV → Prop) (x y dx dy : Nat) : runA G0 0 [] [] (codeOf Tryz.f81) (init Tryz.f81.ntmps [.agg [.flt .f64 x, .flt .f64 y], .flt .f64 dx, .flt .f64 dy] [] 0) (endK G0.E.T Tryz.f81.results.toList fun _ v => R v) = (
 Go.Sx.fok BinOp.add .f64 x dx ∧ Go.Sx.fok BinOp.add .f64 y dy ∧ R (SV.agg [SV.flt .f64 (Go.Sx.fop BinOp.add .f64 x dx), SV.flt .f64 (Go.Sx.fop BinOp.add .f64 y dy)])) := by kernel_rfl
theorem pMove : PureOk Tryz.prog 81 pMoveF := by
  refine pure_of_vc g0 Tryz.func81 rfl (by kernel_rfl) ?_
  intro args v p h hp
  unfold pMoveF at h
  split at h
  · rename_i x y dx dy
    injection h with h; injection h with h1 h2; subst h1; subst h2
    have hp : fok .add .f64 x dx ∧ fok .add .f64 y dy := hp
    refine ⟨rfl, _, _, (vc_pMove _ x y dx dy).mpr ?_⟩
    exact ⟨hp.1, hp.2, rfl, rfl, trivial⟩
  · cases h
def rMoveF : PF := fun
  | [.agg [.flt .f64 a, .flt .f64 b, .flt .f64 c, .flt .f64 d], .flt .f64 dx, .flt .f64 dy] => some (.agg [.flt .f64 (fop .add .f64 a dx), .flt .f64 (fop .add .f64 b dy), .flt .f64 (fop .add .f64 c dx), .flt .f64 (fop .add .f64 d dy)], some (fok .add .f64 a dx ∧ fok .add .f64 b dy ∧ fok .add .f64 c dx ∧ fok .add .f64 d dy))
  | _ => none
theorem vc_rMove (R : SV → Prop) (a b c d dx dy : Nat) : runA G0 0 [] [] (codeOf Tryz.f82) (init Tryz.f82.ntmps [.agg [.flt .f64 a, .flt .f64 b, .flt .f64 c, .flt .f64 d], .flt .f64 dx, .flt .f64 dy] [] 0) (endK G0.E.T Tryz.f82.results.toList fun _ v => R v) = (
 Go.Sx.fok BinOp.add .f64 a dx ∧ Go.Sx.fok BinOp.add .f64 b dy ∧ Go.Sx.fok BinOp.add .f64 c dx ∧ Go.Sx.fok BinOp.add .f64 d dy ∧ R (SV.agg [SV.flt .f64 (Go.Sx.fop BinOp.add .f64 a dx), SV.flt .f64 (Go.Sx.fop BinOp.add .f64 b dy), SV.flt .f64
(Go.Sx.fop BinOp.add .f64 c dx), SV.flt .f64 (Go.Sx.fop BinOp.add .f64 d dy)])) := by kernel_rfl
theorem rMove : PureOk Tryz.prog 82 rMoveF := by
  refine pure_of_vc g0 Tryz.func82 rfl (by kernel_rfl) ?_
  intro args v p h hp
  unfold rMoveF at h
  split at h
  · rename_i a b c d dx dy
    injection h with h; injection h with h1 h2; subst h1; subst h2
    have hp : fok .add .f64 a dx ∧ fok .add .f64 b dy ∧ fok .add .f64 c dx ∧ fok .add .f64 d dy := hp
    refine ⟨rfl, _, _, (vc_rMove _ a b c d dx dy).mpr ?_⟩
    simp [hp, eqv, eqvL, fkEq_self]
  · cases h
def pEmptyF : PF := fun
  | [.agg [.flt .f64 _, .flt .f64 _]] => some (.bool false, none)
  | _ => none
theorem vc_pEmpty (R : SV → Prop) (x y : Nat) : runA G0 0 [] [] (codeOf Tryz.f156) (init Tryz.f156.ntmps [.agg [.flt .f64 x, .flt .f64 y]] [] 0) (endK G0.E.T Tryz.f156.results.toList fun _ v => R v) = (
 R SV.ff) := by kernel_rfl
theorem pEmpty : PureOk Tryz.prog 156 pEmptyF := by
  refine pure_of_vc g0 Tryz.func156 rfl (by kernel_rfl) ?_
  intro args v p h hp
  unfold pEmptyF at h
  split at h
  · rename_i x y
    injection h with h; injection h with h1 h2; subst h1; subst h2
    clear hp
    refine ⟨rfl, _, _, (vc_pEmpty _ x y).mpr ?_⟩
    simp [eqv]
  · cases h
def pRectF : PF := fun
  | [.agg [.flt .f64 x, .flt .f64 y]] => some (.agg [.flt .f64 x, .flt .f64 y, .flt .f64 x, .flt .f64 y], none)
  | _ => none
theorem vc_pRect (R : SV → Prop) (x y : Nat) : runA G0 0 [] [] (codeOf Tryz.f161) (init Tryz.f161.ntmps [.agg [.flt .f64 x, .flt .f64 y]] [] 0) (endK G0.E.T Tryz.f161.results.toList fun _ v => R v) = (
 R (SV.agg [SV.flt .f64 x, SV.flt .f64 y, SV.flt .f64 x, SV.flt .f64 y])) := by kernel_rfl
theorem pRect : PureOk Tryz.prog 161 pRectF := by
  refine pure_of_vc g0 Tryz.func161 rfl (by kernel_rfl) ?_
  intro args v p h hp
  unfold pRectF at h
  split at h
  · rename_i x y
    injection h with h; injection h with h1 h2; subst h1; subst h2
    clear hp
    refine ⟨rfl, _, _, (vc_pRect _ x y).mpr ?_⟩
    simp [eqv, eqvL, fkEq_self]
  · cases h
def rRectF : PF := fun
  | [.agg [.flt .f64 a, .flt .f64 b, .flt .f64 c, .flt .f64 d]] => some (.agg [.flt .f64 a, .flt .f64 b, .flt .f64 c, .flt .f64 d], none)
  | _ => none
theorem vc_rRect (R : SV → Prop) (a b c d : Nat) : runA G0 0 [] [] (codeOf Tryz.f198) (init Tryz.f198.ntmps [.agg [.flt .f64 a, .flt .f64 b, .flt .f64 c, .flt .f64 d]] [] 0) (endK G0.E.T Tryz.f198.results.toList fun _ v => R v) = (
 R (SV.agg [SV.flt .f64 a, SV.flt .f64 b, SV.flt .f64 c, SV.flt .f64 d])) := by kernel_rfl
theorem rRect : PureOk Tryz.prog 198 rRectF := by
  refine pure_of_vc g0 Tryz.func198 rfl (by kernel_rfl) ?_
  intro args v p h hp
  unfold rRectF at h
  split at h
  · rename_i a b c d
    injection h with h; injection h with h1 h2; subst h1; subst h2
    clear hp
    refine ⟨rfl, _, _, (vc_rRect _ a b c d).mpr ?_⟩
    simp [eqv, eqvL, fkEq_self]
  · cases h
noncomputable def optsC : List SV → RdM
  | [.int .i64 k, .int .i64 m] => .ret ⟨[.int .i64 k, .int .i64 m], [], .ptr 0 0, [], [(0, ⟨true, 148, .cells [.int .u8 (IntKind.u8.wrap k), .int .i64 m], 0⟩)], some (True)⟩
  | _ => .fail
theorem vc_opts (k m : Int) : runA G0 0 [] [] (codeOf Tryz.f64) (init Tryz.f64.ntmps [.int .i64 k, .int .i64 m] [] 0) (endK G0.E.T Tryz.f64.results.toList fun S v => postP 0 ⟨[.int .i64 k, .int .i64 m], [], .ptr 0 0, [], [(0, ⟨true, 148, .cells [.int .u8 (IntKind.u8.wrap k), .int .i64 m], 0⟩)], some (True)⟩ S v) = (
(True ∧ 0 = 0) ∧ True ∧ (148 = 148 ∧ 0 = 0 ∧ Go.IntKind.wrap .u8 k = Go.IntKind.wrap .u8 k ∧ m = m ∧ True) ∧ True) := by kernel_rfl
theorem opts : ConOk Tryz.prog 64 (conR optsC) := by
  refine con_of_vc g0 Tryz.func64 rfl (by kernel_rfl) fun args => ?_
  unfold optsC
  split
  · rename_i k m
    intro ho
    replace ho : True := ho
    refine ⟨?_, _, _, (vc_opts k m).mpr ?_⟩
    · refine okFlag_mk rfl ⟨?_, trivial⟩
      simp [eqvRL, eqvR, kEq_self]
    · simp
  · trivial
def GPT : Ctx := ⟨⟨tys, []⟩, [(75, pureCon ptF)]⟩
theorem gPT : CtxOk Tryz.prog GPT := ⟨⟨tysOk, FlatsOk.nil⟩, GamOk.cons (.pure pt) GamOk.nil, by kernel_rfl⟩
def fI (g : Nat → Int) (j : Nat) : Nat := ofI .f64 (g j)
def ptsL (len : Nat) (g : Nat → Int) : Fam := ⟨Nat, fun i =>
  ⟨19, [(3, .slcc 1 i), (6, .slcc 0 len), (7, .int .i64 len), (8, .int .i64 i)], [(0, ⟨false, 23, .ints .i64 (2 * len) g, 0⟩), (1, ⟨true, 100, .flts .f64 (2 * i) (fI g), 2⟩)], 2⟩, fun i => i ≤ len, fun i => len - i⟩
theorem more_twoF {i : Nat} {g : Nat → Nat} {x y : Nat} (hx : x = g (2 * i)) (hy : y = g (2 * i + 1)) : ∀ j, j < 2 * (i + 1) → more (2 * i) g [x, y] 0 j = g j := by
  intro j hj
  subst hx hy
  unfold more
  split
  · rfl
  · have : j = 2 * i ∨ j = 2 * i + 1 := by omega
    rcases this with rfl | rfl <;> simp
noncomputable def ptsC : List SV → RdM
  | [.slcc n len] => .read n fun o0 => (match intsFrom .i64 o0.c with
    | some (m0, g) => .ret ⟨[.slcc 0 len], [(0, ⟨false, 23, .ints .i64 m0 g, 0⟩)], .slcc 1 len, [], [(1, ⟨true, 100, .flts .f64 (2 * len) (fI g), 2⟩)], some (m0 = 2 * len ∧ len ≤ 1000000)⟩
    | none => .fail)
  | _ => .fail
theorem vc_pts (len : Nat)  (g : Nat → Int) : runA GPT 1 [(3, ptsL len g)] [] (codeOf Tryz.f74) (init Tryz.f74.ntmps [.slcc 0 len] [(0, ⟨false, 23, .ints .i64 (2 * len) g, 0⟩)] 1) (endK GPT.E.T Tryz.f74.results.toList fun S v => postP 1 ⟨[.slcc 0 len], [(0, ⟨false, 23, .ints .i64 (2 * len) g, 0⟩)], .slcc 1 len, [], [(1, ⟨true, 100, .flts .f64 (2 * len) (fI g), 2⟩)], some (2 * len = 2 * len ∧ len ≤ 1000000)⟩ S v) = (
(∃ (i : Nat), i ≤ len ∧ (i = 0 ∧ (True ∧ len = len) ∧ (↑len : Int) = (↑len : Int) ∧ (0 : Int) = (↑i : Int) ∧ True) ∧ True ∧ (2 * len ≤ 2 * len ∧ ∀ (i : Nat), i < 2 * len → g i = g i) ∧ True ∧ 2 * i = 0
∧ True) ∧ ∀ (i : Nat), i ≤ len → (decide ((↑i : Int) < (↑len : Int)) = true → (((0 : Int) ≤ (↑i : Int) ∧ (↑i : Int) < (↑len : Int)) ∧ 1 ≤ 2 * len) ∧ 0 + Int.toNat (↑i : Int) * 2 + 2 ≤ 2 * len ∧ (2 * i = i * 2 ∧ (i + 1) * 16 ≤ 140737488355328 ∧ i + 1 ≤ 9223372036854775807) ∧ ∃ (i' : Nat), i' ≤ len ∧ len - i' < len - i ∧ ((True ∧ i + 1 = i') ∧ (True ∧ len = len) ∧ (↑len : Int) = (↑len
: Int) ∧ Go.IntKind.wrap .i64 ((↑i : Int) + (1 : Int)) = (↑i' : Int) ∧ True) ∧ True ∧ (2 * len ≤ 2 * len ∧ ∀ (i : Nat), i < 2 * len → g i = g i) ∧ True ∧ (100 = 100 ∧ 2 = 2 ∧ 2 * i' ≤ 2 * i + List.length [Go.Sx.ofI .f64 (g (0 + Int.toNat (↑i : Int) * 2)), Go.Sx.ofI .f64 (g (0 + Int.toNat (↑i : Int) * 2 + 1))] ∧ ∀ (i_1 : Nat), i_1 < 2 * i' → Go.Sx.more (2 * i)
(fI g) [Go.Sx.ofI .f64 (g (0 + Int.toNat (↑i : Int) * 2)), Go.Sx.ofI .f64 (g (0 + Int.toNat (↑i : Int) * 2 + 1))] 0 i_1 = fI g i_1) ∧ True) ∧ (decide ((↑i : Int) <
(↑len : Int)) = false → (True ∧ i = len) ∧ True ∧ (100 = 100 ∧ 2 = 2 ∧ 2 * len ≤ 2 * i ∧ ∀ (i : Nat), i < 2 * len → fI g i = fI g i) ∧ True)) := by kernel_rfl
theorem pts : ConOk Tryz.prog 74 (conR ptsC) := by
  refine con_of_vc gPT Tryz.func74 rfl (by kernel_rfl) fun args => ?_
  unfold ptsC
  split
  · rename_i n len
    intro o0
    show RdM.All _ (match intsFrom .i64 o0.c with | some (m, g) => _ | none => _) _
    split
    · rename_i m0 g hm0
      intro ho
      replace ho : m0 = 2 * len ∧ len ≤ 1000000 := ho
      obtain ⟨hsz0, ho⟩ := ho
      subst hsz0
      refine ⟨?_, _, _, (vc_pts len g).mpr ?_⟩
      · refine okFlag_mk rfl ⟨?_, ⟨trivial, (contR_ints hm0).1, trivial⟩⟩
        simp [eqvRL, eqvR, sgSig, fsts, nth, sameN_self]
      · refine ⟨⟨0, by omega, by simp⟩, fun i hi => ?_⟩
        have e : i * 2 = 2 * i := by omega
        simp only [Int.toNat_natCast, Nat.zero_add, e, true_and, and_true, implies_true, Nat.le_refl]
        refine ⟨fun h => ?_, fun h => ?_⟩
        · have h := of_decide_eq_true h
          have hw : IntKind.i64.wrap ((i : Int) + 1) = ((i + 1 : Nat) : Int) := by rw [wrap64 (by omega) (by omega)]; omega
          refine ⟨by omega, by omega, by omega, i + 1, by omega, by omega, ⟨rfl, hw⟩, ?_, more_twoF rfl rfl⟩
          show 2 * (i + 1) ≤ 2 * i + 2
          omega
        · have h := of_decide_eq_false h
          omega
    · trivial
  · trivial
end Go.Proofs.Tryz.Sx

/- Shapes become geometries. -/
namespace Go.Proofs.Tryz.Sx
open Go Go.Sx Go.Proofs Go.Fl Go.Geo
set_option maxRecDepth 100000

def crn (g : Nat → Int) (len : Nat) (i : Int) (k : Nat) : Int := if i < len then g (2 * i.toNat + k) else 0
noncomputable def cornerC : List SV → RdM
  | [.agg [.int .i64 k, .slcc n len, .nils], .int .i64 i] => .read n fun o0 => (match intsFrom .i64 o0.c with
    | some (m0, g) => .ret ⟨[.agg [.int .i64 k, .slcc 0 len, .nils], .int .i64 i], [(0, ⟨false, 23, .ints .i64 m0 g, 0⟩)], .agg [.int .i64 (crn g len i 0), .int .i64 (crn g len i 1)], [], [], some (m0 = 2 * len ∧ 0 ≤ i)⟩
    | none => .fail)
  | _ => .fail
theorem vc_corner (k : Int) (len : Nat) (i : Int)  (g : Nat → Int) : runA G0 1 [] [] (codeOf Tryz.f72) (init Tryz.f72.ntmps [.agg [.int .i64 k, .slcc 0 len, .nils], .int .i64 i] [(0, ⟨false, 23, .ints .i64 (2 * len) g, 0⟩)] 1) (endK G0.E.T Tryz.f72.results.toList fun S v => postP 1 ⟨[.agg [.int .i64 k, .slcc 0 len, .nils], .int .i64 i], [(0, ⟨false, 23, .ints .i64 (2 * len) g, 0⟩)], .agg [.int .i64 (crn g len i 0), .int .i64 (crn g len i 1)], [], [], some (2 * len = 2 * len ∧ 0 ≤ i)⟩ S v) = (
(decide (i < (↑len : Int)) = true → (((0 : Int) ≤ i ∧ i < (↑len : Int)) ∧ 1 ≤ 2 * len) ∧ 0 + Int.toNat i * 2 + 2 ≤ 2 * len ∧ (g (0 + Int.toNat i * 2) = crn g len i 0 ∧ g (0 + Int.toNat i * 2 + 1) = crn g len i 1 ∧ True) ∧ True) ∧ (decide (i < (↑len : Int)) = false → ((0 : Int) = crn g len i 0 ∧ (0 : Int) = crn g len
 i 1 ∧ True) ∧ True)) := by kernel_rfl
theorem corner : ConOk Tryz.prog 72 (conR cornerC) := by
  refine con_of_vc g0 Tryz.func72 rfl (by kernel_rfl) fun args => ?_
  unfold cornerC
  split
  · rename_i k n len i
    intro o0
    show RdM.All _ (match intsFrom .i64 o0.c with | some (m, g) => _ | none => _) _
    split
    · rename_i m0 g hm0
      intro ho
      replace ho : m0 = 2 * len ∧ 0 ≤ i := ho
      obtain ⟨hsz0, ho⟩ := ho
      subst hsz0
      refine ⟨?_, _, _, (vc_corner k len i g).mpr ?_⟩
      · refine okFlag_mk rfl ⟨?_, ⟨trivial, (contR_ints hm0).1, trivial⟩⟩
        simp [eqvRL, eqvR, kEq_self, sgSig, fsts, nth, sameN_self]
      · have e : 0 + i.toNat * 2 = 2 * i.toNat := by omega
        refine ⟨fun h => ?_, fun h => ?_⟩
        · have h := of_decide_eq_true h
          rw [e]
          simp [crn, h]
          omega
        · have h := of_decide_eq_false h
          simp [crn, h]
    · trivial
  · trivial

noncomputable def GSH : Ctx := ⟨⟨tys, []⟩, [(72, conR cornerC), (75, pureCon ptF), (68, pureCon mkRectF), (74, conR ptsC), (73, conR newLineC)]⟩
theorem gSH : CtxOk Tryz.prog GSH := ⟨⟨tysOk, FlatsOk.nil⟩, GamOk.cons corner (GamOk.cons (.pure pt) (GamOk.cons (.pure mkRect) (GamOk.cons pts (GamOk.cons newLine GamOk.nil)))), by kernel_rfl⟩
def fcr (g : Nat → Int) (len : Nat) (i : Int) (k : Nat) : Nat := ofI .f64 (crn g len i k)
/-- A point. -/
noncomputable def shaped0C : List SV → RdM
  | [.agg [.int .i64 0, .slcc n len, .nils], .ptr o 0] => .read n fun o0 => (match intsFrom .i64 o0.c with
    | some (m0, g) => .read o fun o1 => (match optOf o1.c with
    | some (km, mm) => .ret ⟨[.agg [.int .i64 0, .slcc 0 len, .nils], .ptr 1 0], [(0, ⟨false, 23, .ints .i64 m0 g, 0⟩), (1, ⟨false, 148, optC km mm, 0⟩)], .ifc 100 (.agg [.flt .f64 (fcr g len 0 0), .flt .f64 (fcr g len 0 1)]), [], [], some (m0 = 2 * len ∧ True)⟩
    | none => .fail)
    | none => .fail)
  | _ => .fail
theorem vc_shaped0 (len : Nat) (km mm : Int)  (g : Nat → Int) : runA GSH 2 [] [] (codeOf Tryz.f63) (init Tryz.f63.ntmps [.agg [.int .i64 0, .slcc 0 len, .nils], .ptr 1 0] [(0, ⟨false, 23, .ints .i64 (2 * len) g, 0⟩), (1, ⟨false, 148, optC km mm, 0⟩)] 2) (endK GSH.E.T Tryz.f63.results.toList fun S v => postP 2 ⟨[.agg [.int .i64 0, .slcc 0 len, .nils], .ptr 1 0], [(0, ⟨false, 23, .ints .i64 (2 * len) g, 0⟩), (1, ⟨false, 148, optC km mm, 0⟩)], .ifc 100 (.agg [.flt .f64 (fcr g len 0 0), .flt .f64 (fcr g len 0 1)]), [], [], some (2 * len = 2 * len ∧ True)⟩ S v) = (
(false = true → (2 * len = 2 * len ∧ (0 : Int) ≤ (0 : Int)) ∧ (2 * len = 2 * len ∧ (0 : Int) ≤ (1 : Int)) ∧ true = true ∧ False ∧ True) ∧ (false = false → (false = true → (2 * len = 2 * len ∧ len ≤
1000000) ∧ (2 * len = 2 * len ∧ km = (0 : Int) ∧ len ≤ 1000000 ∧ (ppBig len false = true → ppOk (fI g) len)) ∧ False ∧ True) ∧ (false = false → (false = true →
 False) ∧ (false = false → (2 * len = 2 * len ∧ (0 : Int) ≤ (0 : Int)) ∧ (Go.Sx.ofI .f64 (crn g len (0 : Int) 0) = fcr g len (0 : Int) 0 ∧ Go.Sx.ofI .f64 (crn g len
(0 : Int) 1) = fcr g len (0 : Int) 1 ∧ True) ∧ True)))) := by kernel_rfl
theorem shaped0 : ConOk Tryz.prog 63 (conR shaped0C) := by
  refine con_of_vc gSH Tryz.func63 rfl (by kernel_rfl) fun args => ?_
  unfold shaped0C
  split
  · rename_i n len o
    intro o0
    show RdM.All _ (match intsFrom .i64 o0.c with | some (m, g) => _ | none => _) _
    split
    · rename_i m0 g hm0
      intro o1
      show RdM.All _ (match optOf o1.c with | some (km, mm) => _ | none => _) _
      split
      · rename_i km mm hm1
        intro ho
        replace ho : m0 = 2 * len ∧ True := ho
        obtain ⟨hsz0, ho⟩ := ho
        subst hsz0
        refine ⟨?_, _, _, (vc_shaped0 len km mm g).mpr ?_⟩
        · refine okFlag_mk rfl ⟨?_, ⟨trivial, (contR_ints hm0).1, ⟨trivial, optOf_spec hm1, trivial⟩⟩⟩
          simp [eqvRL, eqvR, kEq_self, sgSig, fsts, nth, sameN_self]
        · simp [fcr]
      · trivial
    · trivial
  · trivial
/-- A rectangle. -/
noncomputable def shaped1C : List SV → RdM
  | [.agg [.int .i64 1, .slcc n len, .nils], .ptr o 0] => .read n fun o0 => (match intsFrom .i64 o0.c with
    | some (m0, g) => .read o fun o1 => (match optOf o1.c with
    | some (km, mm) => .ret ⟨[.agg [.int .i64 1, .slcc 0 len, .nils], .ptr 1 0], [(0, ⟨false, 23, .ints .i64 m0 g, 0⟩), (1, ⟨false, 148, optC km mm, 0⟩)], .ifc 102 (.agg [.flt .f64 (fcr g len 0 0), .flt .f64 (fcr g len 0 1), .flt .f64 (fcr g len 1 0), .flt .f64 (fcr g len 1 1)]), [], [], some (m0 = 2 * len ∧ True)⟩
    | none => .fail)
    | none => .fail)
  | _ => .fail
theorem vc_shaped1 (len : Nat) (km mm : Int)  (g : Nat → Int) : runA GSH 2 [] [] (codeOf Tryz.f63) (init Tryz.f63.ntmps [.agg [.int .i64 1, .slcc 0 len, .nils], .ptr 1 0] [(0, ⟨false, 23, .ints .i64 (2 * len) g, 0⟩), (1, ⟨false, 148, optC km mm, 0⟩)] 2) (endK GSH.E.T Tryz.f63.results.toList fun S v => postP 2 ⟨[.agg [.int .i64 1, .slcc 0 len, .nils], .ptr 1 0], [(0, ⟨false, 23, .ints .i64 (2 * len) g, 0⟩), (1, ⟨false, 148, optC km mm, 0⟩)], .ifc 102 (.agg [.flt .f64 (fcr g len 0 0), .flt .f64 (fcr g len 0 1), .flt .f64 (fcr g len 1 0), .flt .f64 (fcr g len 1 1)]), [], [], some (2 * len = 2 * len ∧ True)⟩ S v) = (
(true = true → (2 * len = 2 * len ∧ (0 : Int) ≤ (0 : Int)) ∧ (2 * len = 2 * len ∧ (0 : Int) ≤ (1 : Int)) ∧ true = true ∧ (Go.Sx.ofI .f64 (crn g len (0 : Int) 0) = fcr g len
(0 : Int) 0 ∧ Go.Sx.ofI .f64 (crn g len (0 : Int) 1) = fcr g len (0 : Int) 1 ∧ Go.Sx.ofI .f64 (crn g len (1 : Int) 0) = fcr g len (1 : Int) 0 ∧ Go.Sx.ofI .f64 (crn g len (1 : Int) 1) = fcr g len (1 : Int) 1 ∧ True) ∧ True) ∧ (true = false → (false = true → (2 * len = 2 * len ∧ len ≤ 1000000) ∧ (2 * len
= 2 * len ∧ km = (0 : Int) ∧ len ≤ 1000000 ∧ (ppBig len false = true → ppOk (fI g) len)) ∧ False ∧ True) ∧ (false = false → (false = true → False) ∧ (false = false → (2 *
 len = 2 * len ∧ (0 : Int) ≤ (0 : Int)) ∧ False ∧ True)))) := by kernel_rfl
theorem shaped1 : ConOk Tryz.prog 63 (conR shaped1C) := by
  refine con_of_vc gSH Tryz.func63 rfl (by kernel_rfl) fun args => ?_
  unfold shaped1C
  split
  · rename_i n len o
    intro o0
    show RdM.All _ (match intsFrom .i64 o0.c with | some (m, g) => _ | none => _) _
    split
    · rename_i m0 g hm0
      intro o1
      show RdM.All _ (match optOf o1.c with | some (km, mm) => _ | none => _) _
      split
      · rename_i km mm hm1
        intro ho
        replace ho : m0 = 2 * len ∧ True := ho
        obtain ⟨hsz0, ho⟩ := ho
        subst hsz0
        refine ⟨?_, _, _, (vc_shaped1 len km mm g).mpr ?_⟩
        · refine okFlag_mk rfl ⟨?_, ⟨trivial, (contR_ints hm0).1, ⟨trivial, optOf_spec hm1, trivial⟩⟩⟩
          simp [eqvRL, eqvR, kEq_self, sgSig, fsts, nth, sameN_self]
        · simp [fcr]
      · trivial
    · trivial
  · trivial
/-- A line. -/
noncomputable def shaped2C : List SV → RdM
  | [.agg [.int .i64 2, .slcc n len, .nils], .ptr o 0] => .read n fun o0 => (match intsFrom .i64 o0.c with
    | some (m0, g) => .read o fun o1 => (match optOf o1.c with
    | some (km, mm) => .ret ⟨[.agg [.int .i64 2, .slcc 0 len, .nils], .ptr 1 0], [(0, ⟨false, 23, .ints .i64 m0 g, 0⟩), (1, ⟨false, 148, optC km mm, 0⟩)], .ifc 116 (.ptr 2 0), [], [(2, ⟨true, 152, .cells (rectS len false (fI g) 3 0), 0⟩), (3, ⟨true, 100, .flts .f64 (2 * len) (fI g), 2⟩)], some (m0 = 2 * len ∧ km = 0 ∧ len ≤ 1000000 ∧ (ppBig len false = true → ppOk (fI g) len))⟩
    | none => .fail)
    | none => .fail)
  | _ => .fail
theorem vc_shaped2 (len : Nat) (km mm : Int)  (g : Nat → Int) : runA GSH 2 [] [] (codeOf Tryz.f63) (init Tryz.f63.ntmps [.agg [.int .i64 2, .slcc 0 len, .nils], .ptr 1 0] [(0, ⟨false, 23, .ints .i64 (2 * len) g, 0⟩), (1, ⟨false, 148, optC km mm, 0⟩)] 2) (endK GSH.E.T Tryz.f63.results.toList fun S v => postP 2 ⟨[.agg [.int .i64 2, .slcc 0 len, .nils], .ptr 1 0], [(0, ⟨false, 23, .ints .i64 (2 * len) g, 0⟩), (1, ⟨false, 148, optC km mm, 0⟩)], .ifc 116 (.ptr 2 0), [], [(2, ⟨true, 152, .cells (rectS len false (fI g) 3 0), 0⟩), (3, ⟨true, 100, .flts .f64 (2 * len) (fI g), 2⟩)], some (2 * len = 2 * len ∧ km = 0 ∧ len ≤ 1000000 ∧ (ppBig len false = true → ppOk (fI g) len))⟩ S v) = (
(false = true → (2 * len = 2 * len ∧ (0 : Int) ≤ (0 : Int)) ∧ (2 * len = 2 * len ∧ (0 : Int) ≤ (1 : Int)) ∧ true = true ∧ False ∧ True ∧ List.length (rectS len false (fI g) 3
(0 : Int)) = 0 ∧ True ∧ 2 * len = 0 ∧ True) ∧ (false = false → (true = true → (2 * len = 2 * len ∧ len ≤ 1000000) ∧ (2 * len = 2 * len ∧ km = (0 : Int) ∧ len ≤ 1000000 ∧
(ppBig len false = true → ppOk (fI g) len)) ∧ (True ∧ 0 = 0) ∧ True ∧ (152 = 152 ∧ 0 = 0 ∧ false = false ∧ (ppBig len false &&
 Go.Sx.fGt .f64 (cwF (fI g) len len) 0) = (ppBig len false && Go.Sx.fGt .f64 (cwF (fI g) len len) 0) ∧ (ppBig len false &&
!Prod.snd (dcF (fI g) len len)) = (ppBig len false && !Prod.snd (dcF (fI g) len len)) ∧ (0 : Int) = (0 : Int) ∧ True ∧ pick
(ppBig len false) (rlo (fI g) 0 len) = pick (ppBig len false) (rlo (fI g) 0 len) ∧ pick
(ppBig len false) (rlo (fI g) 1 len) = pick (ppBig len false) (rlo (fI g) 1 len) ∧ pick
(ppBig len false) (rhi (fI g) 0 len) = pick (ppBig len false) (rhi (fI g) 0 len) ∧ pick
(ppBig len false) (rhi (fI g) 1 len) = pick (ppBig len false) (rhi (fI g) 1 len) ∧ (True ∧ len = len) ∧
 True) ∧ True ∧ (100 = 100 ∧ 2 = 2 ∧ 2 * len ≤ 2 * len ∧ ∀ (i : Nat), i < 2 * len → fI g i = fI g i) ∧ True) ∧ (true = false → (false = true → False) ∧ (false
= false → (2 * len = 2 * len ∧ (0 : Int) ≤ (0 : Int)) ∧ False ∧ True ∧ List.length (rectS len false (fI g) 3 (0 : Int)) = 0 ∧ True ∧ 2 * len = 0 ∧ True)))) := by kernel_rfl
theorem shaped2 : ConOk Tryz.prog 63 (conR shaped2C) := by
  refine con_of_vc gSH Tryz.func63 rfl (by kernel_rfl) fun args => ?_
  unfold shaped2C
  split
  · rename_i n len o
    intro o0
    show RdM.All _ (match intsFrom .i64 o0.c with | some (m, g) => _ | none => _) _
    split
    · rename_i m0 g hm0
      intro o1
      show RdM.All _ (match optOf o1.c with | some (km, mm) => _ | none => _) _
      split
      · rename_i km mm hm1
        intro ho
        replace ho : m0 = 2 * len ∧ km = 0 ∧ len ≤ 1000000 ∧ (ppBig len false = true → ppOk (fI g) len) := ho
        obtain ⟨hsz0, ho⟩ := ho
        subst hsz0
        refine ⟨?_, _, _, (vc_shaped2 len km mm g).mpr ?_⟩
        · refine okFlag_mk rfl ⟨?_, ⟨trivial, (contR_ints hm0).1, ⟨trivial, optOf_spec hm1, trivial⟩⟩⟩
          simp [eqvRL, eqvR, kEq_self, sgSig, fsts, nth, sameN_self]
        · obtain ⟨hk, hl, hok⟩ := ho
          simp [hk, hl]
          exact hok
      · trivial
    · trivial
  · trivial
end Go.Proofs.Tryz.Sx

/- What a shape says of itself. -/
namespace Go.Proofs.Tryz.Sx
open Go Go.Sx Go.Proofs Go.Fl Go.Geo
set_option maxRecDepth 100000

def GCO : Ctx := ⟨⟨tys, []⟩, [(80, pureCon fromPF)]⟩
theorem gCO : CtxOk Tryz.prog GCO := ⟨⟨tysOk, FlatsOk.nil⟩, GamOk.cons (.pure fromP) GamOk.nil, by kernel_rfl⟩
def cornersF : PF := fun
  | [.agg [.flt .f64 a, .flt .f64 b, .flt .f64 c, .flt .f64 d]] => some (.agg [.int .i64 (toI .f64 a .i64), .int .i64 (toI .f64 b .i64), .int .i64 (toI .f64 c .i64), .int .i64 (toI .f64 d .i64)], some (toIok .f64 a .i64 ∧ toIok .f64 b .i64 ∧ toIok .f64 c .i64 ∧ toIok .f64 d .i64))
  | _ => none
theorem vc_corners (R : SV → Prop) (a b c d : Nat) : runA GCO 0 [] [] (codeOf Tryz.f65) (init Tryz.f65.ntmps [.agg [.flt .f64 a, .flt .f64 b, .flt .f64 c, .flt .f64 d]] [] 0) (endK GCO.E.T Tryz.f65.results.toList fun _ v => R v) = (
(Go.Sx.toIok .f64 a .i64 ∧ Go.Sx.toIok .f64 b .i64) ∧ (Go.Sx.toIok .f64 c .i64 ∧ Go.Sx.toIok .f64 d .i64) ∧ true = true ∧ R (SV.agg [SV.int .i64 (Go.Sx.toI .f64 a .i64), SV.int .i64 (Go.Sx.toI .f64 b .i64), SV.int .i64 (Go.Sx.toI .f64 c .i64), SV.int
.i64 (Go.Sx.toI .f64 d .i64)])) := by kernel_rfl
theorem corners : PureOk Tryz.prog 65 cornersF := by
  refine pure_of_vc gCO Tryz.func65 rfl (by kernel_rfl) ?_
  intro args v p h hp
  unfold cornersF at h
  split at h
  · rename_i a b c d
    injection h with h; injection h with h1 h2; subst h1; subst h2
    have hp : toIok .f64 a .i64 ∧ toIok .f64 b .i64 ∧ toIok .f64 c .i64 ∧ toIok .f64 d .i64 := hp
    refine ⟨rfl, _, _, (vc_corners _ a b c d).mpr ?_⟩
    simp [hp, eqv, eqvL, kEq_self]
  · cases h
noncomputable def GA0 : Ctx := ⟨⟨tys, []⟩, [(63, conR shaped0C), (64, conR optsC), (65, pureCon cornersF), (161, pureCon pRectF), (156, pureCon pEmptyF), (162, pureCon pValidF)]⟩
theorem gA0 : CtxOk Tryz.prog GA0 := ⟨⟨tysOk, FlatsOk.nil⟩, GamOk.cons shaped0 (GamOk.cons opts (GamOk.cons (.pure corners) (GamOk.cons (.pure pRect) (GamOk.cons (.pure pEmpty) (GamOk.cons (.pure pValid) GamOk.nil))))), by kernel_rfl⟩
noncomputable def ask0C : List SV → RdM
  | [.agg [.int .i64 0, .slcc n len, .nils], .int .i64 0, .int .i64 0] => .read n fun o0 => (match intsFrom .i64 o0.c with
    | some (m0, g) => .ret ⟨[.agg [.int .i64 0, .slcc 0 len, .nils], .int .i64 0, .int .i64 0], [(0, ⟨false, 23, .ints .i64 m0 g, 0⟩)], .tup [.agg [.int .i64 (toI .f64 (fcr g len 0 0) .i64), .int .i64 (toI .f64 (fcr g len 0 1) .i64), .int .i64 (toI .f64 (fcr g len 0 0) .i64), .int .i64 (toI .f64 (fcr g len 0 1) .i64)], .bool false, .bool (pvalid (fcr g len 0 0) (fcr g len 0 1))], [], [], some (m0 = 2 * len ∧ toIok .f64 (fcr g len 0 0) .i64 ∧ toIok .f64 (fcr g len 0 1) .i64)⟩
    | none => .fail)
  | _ => .fail
theorem vc_ask0 (len : Nat)  (g : Nat → Int) : runA GA0 1 [] [] (codeOf Tryz.f22) (init Tryz.f22.ntmps [.agg [.int .i64 0, .slcc 0 len, .nils], .int .i64 0, .int .i64 0] [(0, ⟨false, 23, .ints .i64 (2 * len) g, 0⟩)] 1) (endK GA0.E.T Tryz.f22.results.toList fun S v => postP 1 ⟨[.agg [.int .i64 0, .slcc 0 len, .nils], .int .i64 0, .int .i64 0], [(0, ⟨false, 23, .ints .i64 (2 * len) g, 0⟩)], .tup [.agg [.int .i64 (toI .f64 (fcr g len 0 0) .i64), .int .i64 (toI .f64 (fcr g len 0 1) .i64), .int .i64 (toI .f64 (fcr g len 0 0) .i64), .int .i64 (toI .f64 (fcr g len 0 1) .i64)], .bool false, .bool (pvalid (fcr g len 0 0) (fcr g len 0 1))], [], [], some (2 * len = 2 * len ∧ toIok .f64 (fcr g len 0 0) .i64 ∧ toIok .f64 (fcr g len 0 1) .i64)⟩ S v) = (
 True ∧ (2 * len = 2 * len ∧ True) ∧ true = true ∧ (Go.Sx.toIok .f64 (fcr g len (0 : Int) 0) .i64 ∧ Go.Sx.toIok .f64 (fcr g len (0 : Int) 1) .i64 ∧ Go.Sx.toIok .f64
(fcr g len (0 : Int) 0) .i64 ∧ Go.Sx.toIok .f64 (fcr g len (0 : Int) 1) .i64) ∧ ((Go.Sx.toI .f64 (fcr g len (0 : Int) 0) .i64 = Go.Sx.toI .f64 (fcr g len
(0 : Int) 0) .i64 ∧ Go.Sx.toI .f64 (fcr g len (0 : Int) 1) .i64 = Go.Sx.toI .f64 (fcr g len (0 : Int) 1) .i64 ∧ Go.Sx.toI .f64 (fcr g len (0 : Int) 0) .i64 =
 Go.Sx.toI .f64 (fcr g len (0 : Int) 0) .i64 ∧ Go.Sx.toI .f64 (fcr g len (0 : Int) 1) .i64 = Go.Sx.toI .f64 (fcr g len (0 : Int) 1) .i64 ∧ True) ∧ false = false ∧
 pvalid (fcr g len (0 : Int) 0) (fcr g len (0 : Int) 1) = pvalid (fcr g len (0 : Int) 0) (fcr g len (0 : Int) 1) ∧ True) ∧ True) := by kernel_rfl
theorem ask0 : ConOk Tryz.prog 22 (conR ask0C) := by
  refine con_of_vc gA0 Tryz.func22 rfl (by kernel_rfl) fun args => ?_
  unfold ask0C
  split
  · rename_i n len
    intro o0
    show RdM.All _ (match intsFrom .i64 o0.c with | some (m, g) => _ | none => _) _
    split
    · rename_i m0 g hm0
      intro ho
      replace ho : m0 = 2 * len ∧ toIok .f64 (fcr g len 0 0) .i64 ∧ toIok .f64 (fcr g len 0 1) .i64 := ho
      obtain ⟨hsz0, ho⟩ := ho
      subst hsz0
      refine ⟨?_, _, _, (vc_ask0 len g).mpr ?_⟩
      · refine okFlag_mk rfl ⟨?_, ⟨trivial, (contR_ints hm0).1, trivial⟩⟩
        simp [eqvRL, eqvR, kEq_self, sgSig, fsts, nth, sameN_self]
      · simp [ho]
    · trivial
  · trivial

noncomputable def GA1 : Ctx := ⟨⟨tys, []⟩, [(63, conR shaped1C), (64, conR optsC), (65, pureCon cornersF), (198, pureCon rRectF), (192, pureCon rEmptyF), (200, pureCon rValidF)]⟩
theorem gA1 : CtxOk Tryz.prog GA1 := ⟨⟨tysOk, FlatsOk.nil⟩, GamOk.cons shaped1 (GamOk.cons opts (GamOk.cons (.pure corners) (GamOk.cons (.pure rRect) (GamOk.cons (.pure rEmpty) (GamOk.cons (.pure rValid) GamOk.nil))))), by kernel_rfl⟩
noncomputable def ask1C : List SV → RdM
  | [.agg [.int .i64 1, .slcc n len, .nils], .int .i64 0, .int .i64 0] => .read n fun o0 => (match intsFrom .i64 o0.c with
    | some (m0, g) => .ret ⟨[.agg [.int .i64 1, .slcc 0 len, .nils], .int .i64 0, .int .i64 0], [(0, ⟨false, 23, .ints .i64 m0 g, 0⟩)], .tup [.agg [.int .i64 (toI .f64 (fcr g len 0 0) .i64), .int .i64 (toI .f64 (fcr g len 0 1) .i64), .int .i64 (toI .f64 (fcr g len 1 0) .i64), .int .i64 (toI .f64 (fcr g len 1 1) .i64)], .bool false, .bool (pvalid (fcr g len 0 0) (fcr g len 0 1) && pvalid (fcr g len 1 0) (fcr g len 1 1))], [], [], some (m0 = 2 * len ∧ toIok .f64 (fcr g len 0 0) .i64 ∧ toIok .f64 (fcr g len 0 1) .i64 ∧ toIok .f64 (fcr g len 1 0) .i64 ∧ toIok .f64 (fcr g len 1 1) .i64)⟩
    | none => .fail)
  | _ => .fail
theorem vc_ask1 (len : Nat)  (g : Nat → Int) : runA GA1 1 [] [] (codeOf Tryz.f22) (init Tryz.f22.ntmps [.agg [.int .i64 1, .slcc 0 len, .nils], .int .i64 0, .int .i64 0] [(0, ⟨false, 23, .ints .i64 (2 * len) g, 0⟩)] 1) (endK GA1.E.T Tryz.f22.results.toList fun S v => postP 1 ⟨[.agg [.int .i64 1, .slcc 0 len, .nils], .int .i64 0, .int .i64 0], [(0, ⟨false, 23, .ints .i64 (2 * len) g, 0⟩)], .tup [.agg [.int .i64 (toI .f64 (fcr g len 0 0) .i64), .int .i64 (toI .f64 (fcr g len 0 1) .i64), .int .i64 (toI .f64 (fcr g len 1 0) .i64), .int .i64 (toI .f64 (fcr g len 1 1) .i64)], .bool false, .bool (pvalid (fcr g len 0 0) (fcr g len 0 1) && pvalid (fcr g len 1 0) (fcr g len 1 1))], [], [], some (2 * len = 2 * len ∧ toIok .f64 (fcr g len 0 0) .i64 ∧ toIok .f64 (fcr g len 0 1) .i64 ∧ toIok .f64 (fcr g len 1 0) .i64 ∧ toIok .f64 (fcr g len 1 1) .i64)⟩ S v) = (
 True ∧ (2 * len = 2 * len ∧ True) ∧ true = true ∧ (Go.Sx.toIok .f64 (fcr g len (0 : Int) 0) .i64 ∧ Go.Sx.toIok .f64 (fcr g len (0 : Int) 1) .i64 ∧ Go.Sx.toIok .f64
(fcr g len (1 : Int) 0) .i64 ∧ Go.Sx.toIok .f64 (fcr g len (1 : Int) 1) .i64) ∧ ((Go.Sx.toI .f64 (fcr g len (0 : Int) 0) .i64 = Go.Sx.toI .f64 (fcr g len
(0 : Int) 0) .i64 ∧ Go.Sx.toI .f64 (fcr g len (0 : Int) 1) .i64 = Go.Sx.toI .f64 (fcr g len (0 : Int) 1) .i64 ∧ Go.Sx.toI .f64 (fcr g len (1 : Int) 0) .i64 =
 Go.Sx.toI .f64 (fcr g len (1 : Int) 0) .i64 ∧ Go.Sx.toI .f64 (fcr g len (1 : Int) 1) .i64 = Go.Sx.toI .f64 (fcr g len (1 : Int) 1) .i64 ∧ True) ∧ false = false ∧
(pvalid (fcr g len (0 : Int) 0) (fcr g len (0 : Int) 1) && pvalid (fcr g len (1 : Int) 0) (fcr g len (1 : Int) 1)) = (pvalid (fcr g len (0 : Int) 0) (fcr g len (0 : Int) 1) && pvalid (fcr g len (1 : Int) 0) (fcr g len (1 :
 Int) 1)) ∧ True) ∧ True) := by kernel_rfl
theorem ask1 : ConOk Tryz.prog 22 (conR ask1C) := by
  refine con_of_vc gA1 Tryz.func22 rfl (by kernel_rfl) fun args => ?_
  unfold ask1C
  split
  · rename_i n len
    intro o0
    show RdM.All _ (match intsFrom .i64 o0.c with | some (m, g) => _ | none => _) _
    split
    · rename_i m0 g hm0
      intro ho
      replace ho : m0 = 2 * len ∧ toIok .f64 (fcr g len 0 0) .i64 ∧ toIok .f64 (fcr g len 0 1) .i64 ∧ toIok .f64 (fcr g len 1 0) .i64 ∧ toIok .f64 (fcr g len 1 1) .i64 := ho
      obtain ⟨hsz0, ho⟩ := ho
      subst hsz0
      refine ⟨?_, _, _, (vc_ask1 len g).mpr ?_⟩
      · refine okFlag_mk rfl ⟨?_, ⟨trivial, (contR_ints hm0).1, trivial⟩⟩
        simp [eqvRL, eqvR, kEq_self, sgSig, fsts, nth, sameN_self]
      · simp [ho]
    · trivial
  · trivial
noncomputable def GLV : Ctx := ⟨⟨tys, []⟩, [(234, conR sValidC)]⟩
theorem gLV : CtxOk Tryz.prog GLV := ⟨⟨tysOk, FlatsOk.nil⟩, GamOk.cons sValid GamOk.nil, by kernel_rfl⟩
noncomputable def lValidC : List SV → RdM
  | [.ptr s 0] => .read s fun o0 => (match serOf o0.c with
    | some (cl, cw, cv, k, x, y, z, w, p, n) => .read p fun o1 => (match fltsFrom .f64 o1.c with
    | some (m1, g) => .ret ⟨[.ptr 0 0], [(0, ⟨false, 150, serC cl cw cv k x y z w 1 n, 0⟩), (1, ⟨false, 100, .flts .f64 m1 g, 0⟩)], .bool (allValid n g), [], [], some (m1 = 2 * n ∧ n ≤ 1000000)⟩
    | none => .fail)
    | none => .fail)
  | _ => .fail
theorem vc_lValid (cl cw cv : Bool) (k : Int) (x y z w : Nat) (_ : Nm) (n : Nat)  (g : Nat → Nat) : runA GLV 2 [] [] (codeOf Tryz.f230) (init Tryz.f230.ntmps [.ptr 0 0] [(0, ⟨false, 150, serC cl cw cv k x y z w 1 n, 0⟩), (1, ⟨false, 100, .flts .f64 (2 * n) g, 0⟩)] 2) (endK GLV.E.T Tryz.f230.results.toList fun S v => postP 2 ⟨[.ptr 0 0], [(0, ⟨false, 150, serC cl cw cv k x y z w 1 n, 0⟩), (1, ⟨false, 100, .flts .f64 (2 * n) g, 0⟩)], .bool (allValid n g), [], [], some (2 * n = 2 * n ∧ n ≤ 1000000)⟩ S v) = (
(2 * n = 2 * n ∧ n ≤ 1000000) ∧ allValid n g = allValid n g ∧ True) := by kernel_rfl
theorem lValid : ConOk Tryz.prog 230 (conR lValidC) := by
  refine con_of_vc gLV Tryz.func230 rfl (by kernel_rfl) fun args => ?_
  unfold lValidC
  split
  · rename_i s
    intro o0
    show RdM.All _ (match serOf o0.c with | some (cl, cw, cv, k, x, y, z, w, p, n) => _ | none => _) _
    split
    · rename_i cl cw cv k x y z w p n hm0
      intro o1
      show RdM.All _ (match fltsFrom .f64 o1.c with | some (m, g) => _ | none => _) _
      split
      · rename_i m1 g hm1
        intro ho
        replace ho : m1 = 2 * n ∧ n ≤ 1000000 := ho
        obtain ⟨hsz1, ho⟩ := ho
        subst hsz1
        refine ⟨?_, _, _, (vc_lValid cl cw cv k x y z w p n g).mpr ?_⟩
        · refine okFlag_mk rfl ⟨?_, ⟨trivial, serOf_spec hm0 (by simp [sgSig, fsts, nth, sameN_self]), ⟨trivial, (contR_flts hm1).1, trivial⟩⟩⟩
          simp [eqvRL, eqvR, sgSig, fsts, nth, sameN_self]
        · simp [ho]
      · trivial
    · trivial
  · trivial

noncomputable def GA2 : Ctx := ⟨⟨tys, []⟩, [(63, conR shaped2C), (64, conR optsC), (65, pureCon cornersF), (164, conR sRectSC), (163, conR sEmptyC), (230, conR lValidC)]⟩
theorem gA2 : CtxOk Tryz.prog GA2 := ⟨⟨tysOk, FlatsOk.nil⟩, GamOk.cons shaped2 (GamOk.cons opts (GamOk.cons (.pure corners) (GamOk.cons sRectS (GamOk.cons sEmpty (GamOk.cons lValid GamOk.nil))))), by kernel_rfl⟩
def lnR (f : (Nat → Nat) → Nat → Nat → Nat) (g : Nat → Int) (len k : Nat) : Nat := pick (ppBig len false) (f (fI g) k len)
noncomputable def ask2C : List SV → RdM
  | [.agg [.int .i64 2, .slcc n len, .nils], .int .i64 0, .int .i64 0] => .read n fun o0 => (match intsFrom .i64 o0.c with
    | some (m0, g) => .ret ⟨[.agg [.int .i64 2, .slcc 0 len, .nils], .int .i64 0, .int .i64 0], [(0, ⟨false, 23, .ints .i64 m0 g, 0⟩)], .tup [.agg [.int .i64 (toI .f64 (lnR (fun g => rlo g) g len 0) .i64), .int .i64 (toI .f64 (lnR (fun g => rlo g) g len 1) .i64), .int .i64 (toI .f64 (lnR (fun g => rhi g) g len 0) .i64), .int .i64 (toI .f64 (lnR (fun g => rhi g) g len 1) .i64)], .bool (decide (len < 2 ∨ false = true ∧ len < 3)), .bool (allValid len (fI g))], [], [], some (m0 = 2 * len ∧ len ≤ 1000000 ∧ (ppBig len false = true → ppOk (fI g) len) ∧ toIok .f64 (lnR (fun g => rlo g) g len 0) .i64 ∧ toIok .f64 (lnR (fun g => rlo g) g len 1) .i64 ∧ toIok .f64 (lnR (fun g => rhi g) g len 0) .i64 ∧ toIok .f64 (lnR (fun g => rhi g) g len 1) .i64)⟩
    | none => .fail)
  | _ => .fail
theorem vc_ask2 (len : Nat)  (g : Nat → Int) : runA GA2 1 [] [] (codeOf Tryz.f22) (init Tryz.f22.ntmps [.agg [.int .i64 2, .slcc 0 len, .nils], .int .i64 0, .int .i64 0] [(0, ⟨false, 23, .ints .i64 (2 * len) g, 0⟩)] 1) (endK GA2.E.T Tryz.f22.results.toList fun S v => postP 1 ⟨[.agg [.int .i64 2, .slcc 0 len, .nils], .int .i64 0, .int .i64 0], [(0, ⟨false, 23, .ints .i64 (2 * len) g, 0⟩)], .tup [.agg [.int .i64 (toI .f64 (lnR (fun g => rlo g) g len 0) .i64), .int .i64 (toI .f64 (lnR (fun g => rlo g) g len 1) .i64), .int .i64 (toI .f64 (lnR (fun g => rhi g) g len 0) .i64), .int .i64 (toI .f64 (lnR (fun g => rhi g) g len 1) .i64)], .bool (decide (len < 2 ∨ false = true ∧ len < 3)), .bool (allValid len (fI g))], [], [], some (2 * len = 2 * len ∧ len ≤ 1000000 ∧ (ppBig len false = true → ppOk (fI g) len) ∧ toIok .f64 (lnR (fun g => rlo g) g len 0) .i64 ∧ toIok .f64 (lnR (fun g => rlo g) g len 1) .i64 ∧ toIok .f64 (lnR (fun g => rhi g) g len 0) .i64 ∧ toIok .f64 (lnR (fun g => rhi g) g len 1) .i64)⟩ S v) = (
 True ∧ (2 * len = 2 * len ∧ (0 : Int) = (0 : Int) ∧ len ≤ 1000000 ∧ (ppBig len false = true → ppOk (fI g) len)) ∧ true = true ∧ (2 * len = 2 * len ∧ True) ∧
(Go.Sx.toIok .f64 (pick (ppBig len false) (rlo (fI g) 0 len)) .i64 ∧ Go.Sx.toIok .f64 (pick (ppBig len false) (rlo
(fI g) 1 len)) .i64 ∧ Go.Sx.toIok .f64 (pick (ppBig len false) (rhi (fI g) 0 len)) .i64 ∧ Go.Sx.toIok .f64 (pick
(ppBig len false) (rhi (fI g) 1 len)) .i64) ∧ (2 * len = 2 * len ∧ True) ∧ (2 * len = 2 * len ∧ len ≤ 1000000) ∧ ((Go.Sx.toI .f64
(pick (ppBig len false) (rlo (fI g) 0 len)) .i64 = Go.Sx.toI .f64 (lnR (fun (g : Nat → Nat) => rlo g) g len 0) .i64 ∧
 Go.Sx.toI .f64 (pick (ppBig len false) (rlo (fI g) 1 len)) .i64 = Go.Sx.toI .f64 (lnR (fun (g : Nat → Nat) => rlo g) g len 1)
.i64 ∧ Go.Sx.toI .f64 (pick (ppBig len false) (rhi (fI g) 0 len)) .i64 = Go.Sx.toI .f64 (lnR (fun (g : Nat → Nat) => rhi g) g len 0) .i64 ∧ Go.Sx.toI .f64 (pick (ppBig len false) (rhi (fI g) 1 len)) .i64 = Go.Sx.toI .f64 (lnR (fun (g : Nat → Nat) => rhi g) g
 len 1) .i64 ∧ True) ∧ decide (len < 2 ∨ false = true ∧ len < 3) = decide (len < 2 ∨ false = true ∧ len < 3) ∧ allValid len (fI g) = allValid len
(fI g) ∧ True) ∧ True) := by kernel_rfl
theorem ask2 : ConOk Tryz.prog 22 (conR ask2C) := by
  refine con_of_vc gA2 Tryz.func22 rfl (by kernel_rfl) fun args => ?_
  unfold ask2C
  split
  · rename_i n len
    intro o0
    show RdM.All _ (match intsFrom .i64 o0.c with | some (m, g) => _ | none => _) _
    split
    · rename_i m0 g hm0
      intro ho
      replace ho : m0 = 2 * len ∧ len ≤ 1000000 ∧ (ppBig len false = true → ppOk (fI g) len) ∧ toIok .f64 (lnR (fun g => rlo g) g len 0) .i64 ∧ toIok .f64 (lnR (fun g => rlo g) g len 1) .i64 ∧ toIok .f64 (lnR (fun g => rhi g) g len 0) .i64 ∧ toIok .f64 (lnR (fun g => rhi g) g len 1) .i64 := ho
      obtain ⟨hsz0, ho⟩ := ho
      subst hsz0
      refine ⟨?_, _, _, (vc_ask2 len g).mpr ?_⟩
      · refine okFlag_mk rfl ⟨?_, ⟨trivial, (contR_ints hm0).1, trivial⟩⟩
        simp [eqvRL, eqvR, kEq_self, sgSig, fsts, nth, sameN_self]
      · simp only [lnR] at ho ⊢
        obtain ⟨h1, h2, h3, h4, h5, h6⟩ := ho
        simp only [h1, h3, h4, h5, h6, true_and, and_true]
        exact h2
    · trivial
  · trivial
end Go.Proofs.Tryz.Sx

/- Shapes, moved. -/
namespace Go.Proofs.Tryz.Sx
open Go Go.Sx Go.Proofs Go.Fl Go.Geo
set_option maxRecDepth 100000

noncomputable def GM2 : Ctx := ⟨⟨tys, []⟩, [(63, conR shaped2C), (64, conR optsC), (84, conR lMoveC), (83, conR plainC)]⟩
theorem gM2 : CtxOk Tryz.prog GM2 := ⟨⟨tysOk, FlatsOk.nil⟩, GamOk.cons shaped2 (GamOk.cons opts (GamOk.cons lMove (GamOk.cons plain GamOk.nil))), by kernel_rfl⟩
def mvG (g : Nat → Int) (len : Nat) (dx dy : Int) : Nat → Nat := mvI (fI g) (ofI .f64 dx) (ofI .f64 dy) len
noncomputable def moved2C : List SV → RdM
  | [.agg [.int .i64 2, .slcc n len, .nils], .int .i64 dx, .int .i64 dy] => .read n fun o0 => (match intsFrom .i64 o0.c with
    | some (m0, g) => .ret ⟨[.agg [.int .i64 2, .slcc 0 len, .nils], .int .i64 dx, .int .i64 dy], [(0, ⟨false, 23, .ints .i64 m0 g, 0⟩)], .agg [.int .i64 2, .slcc 1 len, .nils], [], [(1, ⟨true, 23, .ints .i64 (2 * len) (wI (mvG g len dx dy)), 2⟩)], some (m0 = 2 * len ∧ len < 64 ∧ (ppBig len false = true → ppOk (fI g) len) ∧ (ppBig len false = true → ppOk (mvG g len dx dy) len) ∧ (∀ j, j < 2 * len → fok .add .f64 (fI g j) (if j % 2 = 0 then ofI .f64 dx else ofI .f64 dy)) ∧ (∀ j, j < 2 * len → toIok .f64 (mvG g len dx dy j) .i64))⟩
    | none => .fail)
  | _ => .fail
theorem vc_moved2 (len : Nat) (dx dy : Int)  (g : Nat → Int) : runA GM2 1 [] [] (codeOf Tryz.f52) (init Tryz.f52.ntmps [.agg [.int .i64 2, .slcc 0 len, .nils], .int .i64 dx, .int .i64 dy] [(0, ⟨false, 23, .ints .i64 (2 * len) g, 0⟩)] 1) (endK GM2.E.T Tryz.f52.results.toList fun S v => postP 1 ⟨[.agg [.int .i64 2, .slcc 0 len, .nils], .int .i64 dx, .int .i64 dy], [(0, ⟨false, 23, .ints .i64 (2 * len) g, 0⟩)], .agg [.int .i64 2, .slcc 1 len, .nils], [], [(1, ⟨true, 23, .ints .i64 (2 * len) (wI (mvG g len dx dy)), 2⟩)], some (2 * len = 2 * len ∧ len < 64 ∧ (ppBig len false = true → ppOk (fI g) len) ∧ (ppBig len false = true → ppOk (mvG g len dx dy) len) ∧ (∀ j, j < 2 * len → fok .add .f64 (fI g j) (if j % 2 = 0 then ofI .f64 dx else ofI .f64 dy)) ∧ (∀ j, j < 2 * len → toIok .f64 (mvG g len dx dy j) .i64))⟩ S v) = (
 True ∧ (2 * len = 2 * len ∧ (0 : Int) = (0 : Int) ∧ len ≤ 1000000 ∧ (ppBig len false = true → ppOk (fI g) len)) ∧ true = true ∧ (2 * len = 2 * len ∧ len <
64 ∧ (∀ (j : Nat), j < 2 * len → Go.Sx.fok BinOp.add .f64 (fI g j) (if j % 2 = 0 then Go.Sx.ofI .f64 dx else Go.Sx.ofI .f64 dy)) ∧ (ppBig len false = true → ppOk
(mvI (fI g) (Go.Sx.ofI .f64 dx) (Go.Sx.ofI .f64 dy) len) len)) ∧ (2 * len = 2 * len ∧ len ≤ 1000000 ∧ ∀ (j : Nat), j < 2 * len → Go.Sx.toIok .f64 (mvI
(fI g) (Go.Sx.ofI .f64 dx) (Go.Sx.ofI .f64 dy) len j) .i64) ∧ ((2 : Int) = (2 : Int) ∧ (True ∧ len = len) ∧ True ∧ True) ∧ True ∧ (23 = 23 ∧ 2 = 2 ∧ 2 * len ≤ 2 * len ∧ ∀ (i : Nat), i
< 2 * len → wI (mvI (fI g) (Go.Sx.ofI .f64 dx) (Go.Sx.ofI .f64 dy) len) i = wI (mvG g len dx dy) i) ∧ True) := by kernel_rfl
theorem moved2 : ConOk Tryz.prog 52 (conR moved2C) := by
  refine con_of_vc gM2 Tryz.func52 rfl (by kernel_rfl) fun args => ?_
  unfold moved2C
  split
  · rename_i n len dx dy
    intro o0
    show RdM.All _ (match intsFrom .i64 o0.c with | some (m, g) => _ | none => _) _
    split
    · rename_i m0 g hm0
      intro ho
      replace ho : m0 = 2 * len ∧ len < 64 ∧ (ppBig len false = true → ppOk (fI g) len) ∧ (ppBig len false = true → ppOk (mvG g len dx dy) len) ∧ (∀ j, j < 2 * len → fok .add .f64 (fI g j) (if j % 2 = 0 then ofI .f64 dx else ofI .f64 dy)) ∧ (∀ j, j < 2 * len → toIok .f64 (mvG g len dx dy j) .i64) := ho
      obtain ⟨hsz0, ho⟩ := ho
      subst hsz0
      refine ⟨?_, _, _, (vc_moved2 len dx dy g).mpr ?_⟩
      · refine okFlag_mk rfl ⟨?_, ⟨trivial, (contR_ints hm0).1, trivial⟩⟩
        simp [eqvRL, eqvR, kEq_self, sgSig, fsts, nth, sameN_self]
      · unfold mvG at ho ⊢
        obtain ⟨h1, h2, h3, h4, h5⟩ := ho
        have hl : len ≤ 1000000 := by omega
        simp only [h1, hl, true_and, and_true, implies_true, Nat.le_refl]
        exact ⟨h2, ⟨h4, h3⟩, h5⟩
    · trivial
  · trivial

noncomputable def GM0 : Ctx := ⟨⟨tys, []⟩, [(63, conR shaped0C), (64, conR optsC), (81, pureCon pMoveF), (80, pureCon fromPF)]⟩
theorem gM0 : CtxOk Tryz.prog GM0 := ⟨⟨tysOk, FlatsOk.nil⟩, GamOk.cons shaped0 (GamOk.cons opts (GamOk.cons (.pure pMove) (GamOk.cons (.pure fromP) GamOk.nil))), by kernel_rfl⟩
def mv1 (g : Nat → Int) (len : Nat) (i : Int) (k : Nat) (d : Int) : Nat := fop .add .f64 (fcr g len i k) (ofI .f64 d)
def mvOk (g : Nat → Int) (len : Nat) (i : Int) (k : Nat) (d : Int) : Prop := fok .add .f64 (fcr g len i k) (ofI .f64 d) ∧ toIok .f64 (mv1 g len i k d) .i64
noncomputable def moved0C : List SV → RdM
  | [.agg [.int .i64 0, .slcc n len, .nils], .int .i64 dx, .int .i64 dy] => .read n fun o0 => (match intsFrom .i64 o0.c with
    | some (m0, g) => .ret ⟨[.agg [.int .i64 0, .slcc 0 len, .nils], .int .i64 dx, .int .i64 dy], [(0, ⟨false, 23, .ints .i64 m0 g, 0⟩)], .agg [.int .i64 0, .slcc 1 1, .nils], [], [(1, ⟨true, 23, .cells [.int .i64 (toI .f64 (mv1 g len 0 0 dx) .i64), .int .i64 (toI .f64 (mv1 g len 0 1 dy) .i64)], 2⟩)], some (m0 = 2 * len ∧ mvOk g len 0 0 dx ∧ mvOk g len 0 1 dy)⟩
    | none => .fail)
  | _ => .fail
theorem vc_moved0 (len : Nat) (dx dy : Int)  (g : Nat → Int) : runA GM0 1 [] [] (codeOf Tryz.f52) (init Tryz.f52.ntmps [.agg [.int .i64 0, .slcc 0 len, .nils], .int .i64 dx, .int .i64 dy] [(0, ⟨false, 23, .ints .i64 (2 * len) g, 0⟩)] 1) (endK GM0.E.T Tryz.f52.results.toList fun S v => postP 1 ⟨[.agg [.int .i64 0, .slcc 0 len, .nils], .int .i64 dx, .int .i64 dy], [(0, ⟨false, 23, .ints .i64 (2 * len) g, 0⟩)], .agg [.int .i64 0, .slcc 1 1, .nils], [], [(1, ⟨true, 23, .cells [.int .i64 (toI .f64 (mv1 g len 0 0 dx) .i64), .int .i64 (toI .f64 (mv1 g len 0 1 dy) .i64)], 2⟩)], some (2 * len = 2 * len ∧ mvOk g len 0 0 dx ∧ mvOk g len 0 1 dy)⟩ S v) = (
 True ∧ (2 * len = 2 * len ∧ True) ∧ true = true ∧ (Go.Sx.fok BinOp.add .f64 (fcr g len (0 : Int) 0) (Go.Sx.ofI .f64 dx) ∧ Go.Sx.fok BinOp.add .f64 (fcr g len (0 : Int) 1) (Go.Sx.ofI
.f64 dy)) ∧ (Go.Sx.toIok .f64 (Go.Sx.fop BinOp.add .f64 (fcr g len (0 : Int) 0) (Go.Sx.ofI .f64 dx)) .i64 ∧ Go.Sx.toIok .f64 (Go.Sx.fop BinOp.add .f64 (fcr g len (0 : Int) 1) (Go.Sx.ofI .f64 dy))
.i64) ∧ ((0 : Int) = (0 : Int) ∧ (True ∧ 1 = 1) ∧ True ∧ True) ∧ True ∧ (23 = 23 ∧ 2 = 2 ∧ Go.Sx.toI .f64 (Go.Sx.fop BinOp.add .f64 (fcr g len (0 : Int) 0) (Go.Sx.ofI .f64 dx))
.i64 = Go.Sx.toI .f64 (mv1 g len (0 : Int) 0 dx) .i64 ∧ Go.Sx.toI .f64 (Go.Sx.fop BinOp.add .f64 (fcr g len (0 : Int) 1) (Go.Sx.ofI .f64 dy)) .i64 = Go.Sx.toI .f64 (mv1 g len (0 :
 Int) 1 dy) .i64 ∧ True) ∧ True) := by kernel_rfl
theorem moved0 : ConOk Tryz.prog 52 (conR moved0C) := by
  refine con_of_vc gM0 Tryz.func52 rfl (by kernel_rfl) fun args => ?_
  unfold moved0C
  split
  · rename_i n len dx dy
    intro o0
    show RdM.All _ (match intsFrom .i64 o0.c with | some (m, g) => _ | none => _) _
    split
    · rename_i m0 g hm0
      intro ho
      replace ho : m0 = 2 * len ∧ mvOk g len 0 0 dx ∧ mvOk g len 0 1 dy := ho
      obtain ⟨hsz0, ho⟩ := ho
      subst hsz0
      refine ⟨?_, _, _, (vc_moved0 len dx dy g).mpr ?_⟩
      · refine okFlag_mk rfl ⟨?_, ⟨trivial, (contR_ints hm0).1, trivial⟩⟩
        simp [eqvRL, eqvR, kEq_self, sgSig, fsts, nth, sameN_self]
      · unfold mvOk mv1 at ho
        obtain ⟨⟨h1, h2⟩, h3, h4⟩ := ho
        simp [h1, h2, h3, h4, mv1]
    · trivial
  · trivial

noncomputable def GM1 : Ctx := ⟨⟨tys, []⟩, [(63, conR shaped1C), (64, conR optsC), (82, pureCon rMoveF), (80, pureCon fromPF)]⟩
theorem gM1 : CtxOk Tryz.prog GM1 := ⟨⟨tysOk, FlatsOk.nil⟩, GamOk.cons shaped1 (GamOk.cons opts (GamOk.cons (.pure rMove) (GamOk.cons (.pure fromP) GamOk.nil))), by kernel_rfl⟩
noncomputable def moved1C : List SV → RdM
  | [.agg [.int .i64 1, .slcc n len, .nils], .int .i64 dx, .int .i64 dy] => .read n fun o0 => (match intsFrom .i64 o0.c with
    | some (m0, g) => .ret ⟨[.agg [.int .i64 1, .slcc 0 len, .nils], .int .i64 dx, .int .i64 dy], [(0, ⟨false, 23, .ints .i64 m0 g, 0⟩)], .agg [.int .i64 1, .slcc 1 2, .nils], [], [(1, ⟨true, 23, .cells [.int .i64 (toI .f64 (mv1 g len 0 0 dx) .i64), .int .i64 (toI .f64 (mv1 g len 0 1 dy) .i64), .int .i64 (toI .f64 (mv1 g len 1 0 dx) .i64), .int .i64 (toI .f64 (mv1 g len 1 1 dy) .i64)], 2⟩)], some (m0 = 2 * len ∧ mvOk g len 0 0 dx ∧ mvOk g len 0 1 dy ∧ mvOk g len 1 0 dx ∧ mvOk g len 1 1 dy)⟩
    | none => .fail)
  | _ => .fail
theorem vc_moved1 (len : Nat) (dx dy : Int)  (g : Nat → Int) : runA GM1 1 [] [] (codeOf Tryz.f52) (init Tryz.f52.ntmps [.agg [.int .i64 1, .slcc 0 len, .nils], .int .i64 dx, .int .i64 dy] [(0, ⟨false, 23, .ints .i64 (2 * len) g, 0⟩)] 1) (endK GM1.E.T Tryz.f52.results.toList fun S v => postP 1 ⟨[.agg [.int .i64 1, .slcc 0 len, .nils], .int .i64 dx, .int .i64 dy], [(0, ⟨false, 23, .ints .i64 (2 * len) g, 0⟩)], .agg [.int .i64 1, .slcc 1 2, .nils], [], [(1, ⟨true, 23, .cells [.int .i64 (toI .f64 (mv1 g len 0 0 dx) .i64), .int .i64 (toI .f64 (mv1 g len 0 1 dy) .i64), .int .i64 (toI .f64 (mv1 g len 1 0 dx) .i64), .int .i64 (toI .f64 (mv1 g len 1 1 dy) .i64)], 2⟩)], some (2 * len = 2 * len ∧ mvOk g len 0 0 dx ∧ mvOk g len 0 1 dy ∧ mvOk g len 1 0 dx ∧ mvOk g len 1 1 dy)⟩ S v) = (
 True ∧ (2 * len = 2 * len ∧ True) ∧ true = true ∧ (Go.Sx.fok BinOp.add .f64 (fcr g len (0 : Int) 0) (Go.Sx.ofI .f64 dx) ∧ Go.Sx.fok BinOp.add .f64 (fcr g len (0 : Int) 1) (Go.Sx.ofI
.f64 dy) ∧ Go.Sx.fok BinOp.add .f64 (fcr g len (1 : Int) 0) (Go.Sx.ofI .f64 dx) ∧ Go.Sx.fok BinOp.add .f64 (fcr g len (1 : Int) 1) (Go.Sx.ofI .f64 dy)) ∧ (Go.Sx.toIok .f64 (Go.Sx.fop BinOp.add .f64
(fcr g len (0 : Int) 0) (Go.Sx.ofI .f64 dx)) .i64 ∧ Go.Sx.toIok .f64 (Go.Sx.fop BinOp.add .f64 (fcr g len (0 : Int) 1) (Go.Sx.ofI .f64 dy)) .i64) ∧ (Go.Sx.toIok .f64 (Go.Sx.fop BinOp.add .f64
(fcr g len (1 : Int) 0) (Go.Sx.ofI .f64 dx)) .i64 ∧ Go.Sx.toIok .f64 (Go.Sx.fop BinOp.add .f64 (fcr g len (1 : Int) 1) (Go.Sx.ofI .f64 dy)) .i64) ∧ true = true ∧ ((1 : Int) = (1 : Int) ∧ (True ∧ 2 = 2) ∧ True ∧ True) ∧ True ∧ (23 = 23 ∧ 2 = 2 ∧ Go.Sx.toI .f64 (Go.Sx.fop BinOp.add .f64 (fcr g len (0 : Int) 0) (Go.Sx.ofI .f64 dx)) .i64 = Go.Sx.toI .f64
(mv1 g len (0 : Int) 0 dx) .i64 ∧ Go.Sx.toI .f64 (Go.Sx.fop BinOp.add .f64 (fcr g len (0 : Int) 1) (Go.Sx.ofI .f64 dy)) .i64 = Go.Sx.toI .f64 (mv1 g len (0 : Int) 1 dy)
.i64 ∧ Go.Sx.toI .f64 (Go.Sx.fop BinOp.add .f64 (fcr g len (1 : Int) 0) (Go.Sx.ofI .f64 dx)) .i64 = Go.Sx.toI .f64 (mv1 g len (1 : Int) 0 dx) .i64 ∧ Go.Sx.toI .f64 (Go.Sx.fop BinOp.add .f64
(fcr g len (1 : Int) 1) (Go.Sx.ofI .f64 dy)) .i64 = Go.Sx.toI .f64 (mv1 g len (1 : Int) 1 dy) .i64 ∧ True) ∧ True) := by kernel_rfl
theorem moved1 : ConOk Tryz.prog 52 (conR moved1C) := by
  refine con_of_vc gM1 Tryz.func52 rfl (by kernel_rfl) fun args => ?_
  unfold moved1C
  split
  · rename_i n len dx dy
    intro o0
    show RdM.All _ (match intsFrom .i64 o0.c with | some (m, g) => _ | none => _) _
    split
    · rename_i m0 g hm0
      intro ho
      replace ho : m0 = 2 * len ∧ mvOk g len 0 0 dx ∧ mvOk g len 0 1 dy ∧ mvOk g len 1 0 dx ∧ mvOk g len 1 1 dy := ho
      obtain ⟨hsz0, ho⟩ := ho
      subst hsz0
      refine ⟨?_, _, _, (vc_moved1 len dx dy g).mpr ?_⟩
      · refine okFlag_mk rfl ⟨?_, ⟨trivial, (contR_ints hm0).1, trivial⟩⟩
        simp [eqvRL, eqvR, kEq_self, sgSig, fsts, nth, sameN_self]
      · unfold mvOk mv1 at ho
        obtain ⟨⟨h1, h2⟩, ⟨h3, h4⟩, ⟨h5, h6⟩, h7, h8⟩ := ho
        simp [h1, h2, h3, h4, h5, h6, h7, h8, mv1]
    · trivial
  · trivial
end Go.Proofs.Tryz.Sx

/- impl.RectAsk: what a rectangle says, by whole numbers. -/
namespace Go.Proofs.Tryz.Sx
open Go Go.Sx Go.Proofs Go.Fl Go.Geo
set_option maxRecDepth 100000

/-! ### Floats of small whole numbers -/
theorem fi {n : Int} (h : small n) : FI (ofI .f64 n) n := FI_ofInt (by unfold small at h; omega)
theorem toI_of {n : Int} (h : small n) : toIok .f64 (ofI .f64 n) .i64 ∧ toI .f64 (ofI .f64 n) .i64 = n := toI_FI (fi h) (by unfold small at h; omega)
theorem fop_of {op : BinOp} {x y r : Nat} (h : floatBits op .f64 x y = some r) : fok op .f64 x y ∧ fop op .f64 x y = r := by
  unfold fok fop
  rw [h]; exact ⟨rfl, rfl⟩
theorem add_of {a b : Int} (ha : small a) (hb : small b) : fok .add .f64 (ofI .f64 a) (ofI .f64 b) ∧ FI (fop .add .f64 (ofI .f64 a) (ofI .f64 b)) (a + b) := by
  obtain ⟨r, h1, h2⟩ := FI_add (fi ha) (fi hb) (by unfold small at ha hb; omega)
  obtain ⟨h3, h4⟩ := fop_of (op := .add) h1
  exact ⟨h3, by rw [h4]; exact h2⟩
theorem mul_of {x y : Nat} {a b : Int} (hx : FI x a) (hy : FI y b) (h : (a * b).natAbs < 2 ^ 53) : fok .mul .f64 x y ∧ FI (fop .mul .f64 x y) (a * b) := by
  obtain ⟨r, h1, h2⟩ := FI_mul hx hy h
  obtain ⟨h3, h4⟩ := fop_of (op := .mul) h1
  exact ⟨h3, by rw [h4]; exact h2⟩

def vld (x y : Int) : Bool := decide (-180 ≤ x ∧ x ≤ 180 ∧ -90 ≤ y ∧ y ≤ 90)
theorem fi_lit {n : Int} {x : Nat} (e : FloatKind.f64.nearest n = x) (h : n.natAbs < 2 ^ 53) : FI x n := by
  have := FI_ofInt h
  rw [e] at this; exact this
theorem pvalid_of {x y : Int} (hx : small x) (hy : small y) : pvalid (ofI .f64 x) (ofI .f64 y) = vld x y := by
  unfold pvalid vld
  rw [fge_I (fi hx) (fi_lit (n := -180) (by decide) (by decide)), fle_I (fi hx) (fi_lit (n := 180) (by decide) (by decide)), fge_I (fi hy) (fi_lit (n := -90) (by decide) (by decide)), fle_I (fi hy) (fi_lit (n := 90) (by decide) (by decide))]
  simp [Bool.and_assoc]

/-! ### RectAsk -/
def sm4 (a b c d : Int) : Prop := small a ∧ small b ∧ small c ∧ small d
end Go.Proofs.Tryz.Sx

/- A number times the rounded inverse of another one: where it stands to 0 and 1. -/
namespace Go.Fl
open Go.Sx Ieee

/-- A correctly rounded whole number of least units. -/
structure Rnd (P K E : Nat) : Prop where
  up : 2 * (K * 2 ^ E) ≤ 2 * P + 2 ^ E
  dn : 2 * P ≤ 2 * (K * 2 ^ E) + 2 ^ E
  lo : E = 0 ∨ 2 ^ 52 * 2 ^ E ≤ P
  hi : P < 2 ^ 53 * 2 ^ E
  tie : 2 * (K * 2 ^ E) = 2 * P + 2 ^ E → K % 2 = 0

theorem zero_FI : FI 0 0 := ⟨fin_zero, by rw [V_zero, Int.zero_mul]⟩

end Go.Fl

/- Segment.IntersectsSegment. -/
namespace Go.Proofs.Tryz.Sx
open Go Go.Sx Go.Proofs Go.Fl Go.Geo
set_option maxRecDepth 100000

def yMeet (a2 b2 c2 d2 : Int) : Prop := ¬ (max a2 b2 < min c2 d2 ∨ max c2 d2 < min a2 b2)
def noEnds (a1 a2 b1 b2 c1 c2 d1 d2 : Int) : Prop := ¬ ((a1 = c1 ∧ a2 = c2) ∨ (a1 = d1 ∧ a2 = d2) ∨ (b1 = c1 ∧ b2 = c2) ∨ (b1 = d1 ∧ b2 = d2))
def xp (x y z w : Int) : Int := x * w - y * z
def half (a b c : Int) : Prop := (c ≤ a ∧ b < c) ∨ (a < c ∧ c ≤ b)
/-- What the code says, by whole numbers. -/
def Isec (a1 a2 b1 b2 c1 c2 d1 d2 : Int) : Prop :=
  yMeet a2 b2 c2 d2 ∧ yMeet a1 b1 c1 d1 ∧ (¬ noEnds a1 a2 b1 b2 c1 c2 d1 d2 ∨
    (xp (c1 - a1) (c2 - a2) (b1 - a1) (b2 - a2) = 0 ∧ (half a1 b1 c1 ∨ half a2 b2 c2 ∨ On a1 a2 b1 b2 c1 c2 ∨ On a1 a2 b1 b2 d1 d2)) ∨
    (xp (c1 - a1) (c2 - a2) (b1 - a1) (b2 - a2) ≠ 0 ∧ xp (b1 - a1) (b2 - a2) (d1 - c1) (d2 - c2) ≠ 0 ∧
      0 ≤ xp (c1 - a1) (c2 - a2) (d1 - c1) (d2 - c2) * xp (b1 - a1) (b2 - a2) (d1 - c1) (d2 - c2) ∧ (xp (c1 - a1) (c2 - a2) (d1 - c1) (d2 - c2)).natAbs ≤ (xp (b1 - a1) (b2 - a2) (d1 - c1) (d2 - c2)).natAbs ∧
      0 ≤ xp (c1 - a1) (c2 - a2) (b1 - a1) (b2 - a2) * xp (b1 - a1) (b2 - a2) (d1 - c1) (d2 - c2) ∧ (xp (c1 - a1) (c2 - a2) (b1 - a1) (b2 - a2)).natAbs ≤ (xp (b1 - a1) (b2 - a2) (d1 - c1) (d2 - c2)).natAbs))
instance (a b c d : Int) : Decidable (yMeet a b c d) := by unfold yMeet; infer_instance
instance (a b c d e f g h : Int) : Decidable (noEnds a b c d e f g h) := by unfold noEnds; infer_instance
instance (a b c : Int) : Decidable (half a b c) := by unfold half; infer_instance
instance (a b c d e f g h : Int) : Decidable (Isec a b c d e f g h) := by unfold Isec; infer_instance

structure P8 (ax ay bx by' cx cy dx dy : Nat) (a1 a2 b1 b2 c1 c2 d1 d2 : Int) : Prop where
  ax : FI ax a1
  ay : FI ay a2
  bx : FI bx b1
  by' : FI by' b2
  cx : FI cx c1
  cy : FI cy c2
  dx : FI dx d1
  dy : FI dy d2
  s : (small a1 ∧ small a2 ∧ small b1 ∧ small b2) ∧ (small c1 ∧ small c2 ∧ small d1 ∧ small d2)

end Go.Proofs.Tryz.Sx

/- What a segment says: the parts. -/
namespace Go.Proofs.Tryz.Sx
open Go Go.Sx Go.Proofs Go.Fl Go.Geo
set_option maxRecDepth 100000

/-! ### Whole numbers -/
def sgn (n : Int) : Int := if 0 < n then 1 else if n < 0 then -1 else 0
def GMeet (a1 a2 b1 b2 c1 c2 d1 d2 : Int) : Prop := On a1 a2 b1 b2 c1 c2 ∨ On a1 a2 b1 b2 d1 d2 ∨ On c1 c2 d1 d2 a1 a2 ∨ On c1 c2 d1 d2 b1 b2 ∨
  (sgn (cross a1 a2 b1 b2 c1 c2) * sgn (cross a1 a2 b1 b2 d1 d2) < 0 ∧ sgn (cross c1 c2 d1 d2 a1 a2) * sgn (cross c1 c2 d1 d2 b1 b2) < 0)
instance (a b c d e f g h : Int) : Decidable (GMeet a b c d e f g h) := by unfold GMeet; infer_instance
def GCov (a1 a2 b1 b2 c1 c2 d1 d2 : Int) : Prop := On c1 c2 d1 d2 a1 a2 ∧ On c1 c2 d1 d2 b1 b2 ∧ ¬ On a1 a2 b1 b2 c1 c2 ∧ ¬ On a1 a2 b1 b2 d1 d2
instance (a b c d e f g h : Int) : Decidable (GCov a b c d e f g h) := by unfold GCov; infer_instance
/-- The least, the greatest of the first i numbers of a kind (and of the first one). -/
def mn (g : Nat → Int) (k : Nat) : Nat → Int
  | 0 => g k
  | i + 1 => imin (mn g k i) (g (2 * i + k))
def mx (g : Nat → Int) (k : Nat) : Nat → Int
  | 0 => g k
  | i + 1 => imax (mx g k i) (g (2 * i + k))
def gRectL (len m : Nat) (g : Nat → Int) : Fam := ⟨Nat, fun i =>
  ⟨57, [(2, .ptr 1 0), (3, .ptr 2 0), (17, .slcc 0 len), (18, .int .i64 len), (19, .int .i64 i)], [(0, ⟨false, 28, .ints .i64 m g, 0⟩), (1, ⟨true, 29, .cells [.int .i64 0, .int .i64 0, .int .i64 0, .int .i64 0], 0⟩), (2, ⟨true, 29, .cells [.int .i64 (mn g 0 i), .int .i64 (mn g 1 i), .int .i64 (mx g 0 i), .int .i64 (mx g 1 i)], 0⟩)], 3⟩, fun i => i ≤ len, fun i => len - i⟩
noncomputable def gRectC : List SV → RdM
  | [.slcc n len] => .read n fun o0 => (match intsFrom .i64 o0.c with
    | some (m0, g) => .ret ⟨[.slcc 0 len], [(0, ⟨false, 28, .ints .i64 m0 g, 0⟩)], .agg [.int .i64 (mn g 0 len), .int .i64 (mn g 1 len), .int .i64 (mx g 0 len), .int .i64 (mx g 1 len)], [], [], some (1 ≤ len ∧ 2 * len ≤ m0 ∧ len ≤ 1000000)⟩
    | none => .fail)
  | _ => .fail
theorem vc_gRect (len : Nat) (m0 : Nat) (g : Nat → Int) : runA G0 1 [(5, gRectL len m0 g)] [] (codeOf Tryz.f27) (init Tryz.f27.ntmps [.slcc 0 len] [(0, ⟨false, 28, .ints .i64 (m0) g, 0⟩)] 1) (endK G0.E.T Tryz.f27.results.toList fun S v => postP 1 ⟨[.slcc 0 len], [(0, ⟨false, 28, .ints .i64 (m0) g, 0⟩)], .agg [.int .i64 (mn g 0 len), .int .i64 (mn g 1 len), .int .i64 (mx g 0 len), .int .i64 (mx g 1 len)], [], [], some (1 ≤ len ∧ 2 * len ≤ m0 ∧ len ≤ 1000000)⟩ S v) = (
(((↑len : Int) == (0 : Int)) = true → ((0 : Int) = mn g 0 len ∧ (0 : Int) = mn g 1 len ∧ (0 : Int) = mx g 0 len ∧ (0 : Int) = mx g 1 len ∧ True) ∧
 True) ∧ (((↑len : Int) == (0 : Int)) = false → (((0 : Int) ≤ (0 : Int) ∧ (0 : Int) < (↑len : Int)) ∧ 1 ≤ m0) ∧ 2 ≤ m0 ∧ (((0 : Int) ≤ (0 : Int) ∧ (0 : Int) < (↑len : Int)) ∧ 1 ≤ m0) ∧ 2 ≤ m0 ∧ true = true ∧ (∃ (i :
 Nat), i ≤ len ∧ ((True ∧ 0 = 0) ∧ (True ∧ 0 = 0) ∧ (True ∧ len = len) ∧ (↑len : Int) = (↑len : Int) ∧ (0 : Int) = (↑i : Int) ∧ True) ∧ True ∧ (m0 ≤ m0 ∧ ∀ (i : Nat), i < m0 → g i = g i) ∧ True ∧ (29 = 29 ∧ 0 = 0 ∧ (0 : Int) = (0 : Int) ∧ (0 : Int) = (0 : Int) ∧ (0 : Int) = (0 : Int) ∧ (0 : Int) = (0 : Int) ∧ True) ∧ True ∧ (29 = 29 ∧ 0 = 0 ∧ g 0 = mn g 0 i ∧ g 1 = mn g 1 i ∧ g 0 = mx g 0 i ∧ g 1 = mx g 1 i ∧ True) ∧ True) ∧ ∀ (i : Nat), i ≤ len → (decide ((↑i : Int) < (↑len : Int)) = true → (((0 : Int) ≤ (↑i :
 Int) ∧ (↑i : Int) < (↑len : Int)) ∧ 1 ≤ m0) ∧ 0 + Int.toNat (↑i : Int) * 2 + 2 ≤ m0 ∧ (((0 : Int) ≤ (0 : Int) ∧ (0 : Int) < (2 : Int)) ∧ True) ∧ (((0 : Int) ≤ (0 : Int) ∧ (0 : Int) < (2 : Int)) ∧ True) ∧ (((0 : Int) ≤
(0 : Int) ∧ (0 : Int) < (2 : Int)) ∧ True) ∧ (((0 : Int) ≤ (0 : Int) ∧ (0 : Int) < (2 : Int)) ∧ True) ∧ true = true ∧ (((0 : Int) ≤ (1 : Int) ∧ (1 : Int) < (2 : Int)) ∧ True) ∧ (((0 : Int) ≤ (1 : Int) ∧ (1 : Int) < (2 : Int)) ∧ True) ∧ (((0 : Int) ≤
(1 : Int) ∧ (1 : Int) < (2 : Int)) ∧ True) ∧ (((0 : Int) ≤ (1 : Int) ∧ (1 : Int) < (2 : Int)) ∧ True) ∧ true = true ∧ ∃ (i' : Nat), i' ≤ len ∧ len - i' < len - i ∧ ((True ∧ 0 = 0) ∧ (True ∧ 0 = 0) ∧ (True ∧ len = len)
∧ (↑len : Int) = (↑len : Int) ∧ Go.IntKind.wrap .i64 ((↑i : Int) + (1 : Int)) = (↑i' : Int) ∧ True) ∧ True ∧ (m0 ≤ m0 ∧ ∀ (i : Nat), i < m0 → g i = g i) ∧ True ∧ (29 = 29 ∧ 0 = 0 ∧ (0 : Int) = (0 : Int) ∧ (0 : Int) =
(0 : Int) ∧ (0 : Int) = (0 : Int) ∧ (0 : Int) = (0 : Int) ∧ True) ∧ True ∧ (29 = 29 ∧ 0 = 0 ∧ Go.Sx.imin (mn g 0 i) (g (0 + Int.toNat (↑i : Int) * 2)) = mn g
0 i' ∧ Go.Sx.imin (mn g 1 i) (g (0 + Int.toNat (↑i : Int) * 2 + 1)) = mn g 1 i' ∧ Go.Sx.imax (mx g 0 i) (g (0 + Int.toNat (↑i : Int)
* 2)) = mx g 0 i' ∧ Go.Sx.imax (mx g 1 i) (g (0 + Int.toNat (↑i : Int) * 2 + 1)) = mx g 1 i' ∧ True) ∧ True) ∧ (decide ((↑i : Int) < (↑len :
 Int)) = false → (mn g 0 i = mn g 0 len ∧ mn g 1 i = mn g 1 len ∧ mx g 0 i = mx g 0 len ∧
 mx g 1 i = mx g 1 len ∧ True) ∧ True))) := by kernel_rfl
theorem gRect : ConOk Tryz.prog 27 (conR gRectC) := by
  refine con_of_vc g0 Tryz.func27 rfl (by kernel_rfl) fun args => ?_
  unfold gRectC
  split
  · rename_i n len
    intro o0
    show RdM.All _ (match intsFrom .i64 o0.c with | some (m, g) => _ | none => _) _
    split
    · rename_i m0 g hm0
      intro ho
      replace ho : 1 ≤ len ∧ 2 * len ≤ m0 ∧ len ≤ 1000000 := ho
      refine ⟨?_, _, _, (vc_gRect len m0 g).mpr ?_⟩
      · refine okFlag_mk rfl ⟨?_, ⟨trivial, (contR_ints hm0).1, trivial⟩⟩
        simp [eqvRL, eqvR, sgSig, fsts, nth, sameN_self]
      · refine ⟨fun h => ?_, fun _ => ⟨by omega, by omega, by omega, by omega, rfl, ⟨0, by simp [mn, mx]⟩, fun i hi => ⟨fun h => ?_, fun h => ?_⟩⟩⟩
        · simp at h; omega
        · have h := of_decide_eq_true h
          have e : 0 + (i : Int).toNat * 2 = 2 * i := by omega
          have hw : IntKind.i64.wrap ((i : Int) + 1) = ((i + 1 : Nat) : Int) := by rw [wrap64 (by omega) (by omega)]; omega
          rw [e, hw]
          refine ⟨by omega, by omega, by simp, by simp, by simp, by simp, rfl, by simp, by simp, by simp, by simp, rfl, i + 1, by omega, by omega, by simp [mn, mx]⟩
        · have h := of_decide_eq_false h
          have : i = len := by omega
          subst this
          simp
    · trivial
  · trivial
end Go.Proofs.Tryz.Sx

/- processPoints, by whole numbers. -/
namespace Go.Proofs.Tryz.Sx
open Go Go.Sx Go.Proofs Go.Fl Go.Geo
set_option maxRecDepth 100000

/-- The cells are whole numbers of at most 2^22. -/
def Whl (g : Nat → Nat) (z : Nat → Int) (m : Nat) : Prop := ∀ j, j < m → FI (g j) (z j) ∧ (z j).natAbs ≤ 4194304

def cwZ (z : Nat → Int) (len : Nat) : Nat → Int
  | 0 => 0
  | i + 1 => cwZ z len i + (z (2 * nx len i) - z (2 * i)) * (z (2 * nx len i + 1) + z (2 * i + 1))
def zcZ (z : Nat → Int) (len i : Nat) : Int :=
  (z (2 * nx len i) - z (2 * i)) * (z (2 * nx2 len i + 1) - z (2 * nx len i + 1)) - (z (2 * nx len i + 1) - z (2 * i + 1)) * (z (2 * nx2 len i) - z (2 * nx len i))
def loZ (z : Nat → Int) (k : Nat) : Nat → Int
  | 0 => 0
  | i + 1 => if i = 0 ∨ z (2 * i + k) < loZ z k i then z (2 * i + k) else loZ z k i
def hiZ (z : Nat → Int) (k : Nat) : Nat → Int
  | 0 => 0
  | i + 1 => if i = 0 then z (2 * i + k) else if z (2 * i + k) < loZ z k i then hiZ z k i else if hiZ z k i < z (2 * i + k) then z (2 * i + k) else hiZ z k i

theorem add_F {x y : Nat} {a b : Int} (hx : FI x a) (hy : FI y b) (h : (a + b).natAbs < 2 ^ 53) : fok .add .f64 x y ∧ FI (fop .add .f64 x y) (a + b) := by
  obtain ⟨r, h1, h2⟩ := FI_add hx hy h
  obtain ⟨h3, h4⟩ := fop_of (op := .add) h1
  exact ⟨h3, by rw [h4]; exact h2⟩
theorem sub_F {x y : Nat} {a b : Int} (hx : FI x a) (hy : FI y b) (h : (a - b).natAbs < 2 ^ 53) : fok .sub .f64 x y ∧ FI (fop .sub .f64 x y) (a - b) := by
  obtain ⟨r, h1, h2⟩ := FI_sub hx hy h
  obtain ⟨h3, h4⟩ := fop_of (op := .sub) h1
  exact ⟨h3, by rw [h4]; exact h2⟩
theorem natAbs_mul_le {a b : Int} {m n : Nat} (ha : a.natAbs ≤ m) (hb : b.natAbs ≤ n) : (a * b).natAbs ≤ m * n := by
  rw [Int.natAbs_mul]; exact Nat.mul_le_mul ha hb
theorem natAbs_sub_le {a b : Int} {m : Nat} (ha : a.natAbs ≤ m) (hb : b.natAbs ≤ m) : (a - b).natAbs ≤ 2 * m := by omega
theorem natAbs_add_le' {a b : Int} {m : Nat} (ha : a.natAbs ≤ m) (hb : b.natAbs ≤ m) : (a + b).natAbs ≤ 2 * m := by omega

theorem nx_lt {len i : Nat} (h : i < len) : nx len i < len := by unfold nx; split <;> omega
theorem nx2_lt {len i : Nat} (h : i < len) (h2 : 2 ≤ len) : nx2 len i < len := by unfold nx2; split; omega; split <;> omega

section
variable {g : Nat → Nat} {z : Nat → Int} {len : Nat} (hl : len ≤ 64) (hg : Whl g z (2 * len))
include hg

theorem lo_F {k : Nat} (hk : k < 2) : ∀ i, i ≤ len → FI (rlo g k i) (loZ z k i) ∧ (loZ z k i).natAbs ≤ 4194304
  | 0, _ => ⟨zero_FI, by simp [loZ]⟩
  | i + 1, h => by
    obtain ⟨h1, h2⟩ := lo_F hk i (by omega)
    obtain ⟨h3, h4⟩ := hg (2 * i + k) (by omega)
    show FI (if i = 0 ∨ fLt .f64 (g (2 * i + k)) (rlo g k i) = true then g (2 * i + k) else rlo g k i) (if i = 0 ∨ z (2 * i + k) < loZ z k i then z (2 * i + k) else loZ z k i) ∧ (if i = 0 ∨ z (2 * i + k) < loZ z k i then z (2 * i + k) else loZ z k i).natAbs ≤ 4194304
    rw [flt_I h3 h1]
    by_cases hc : i = 0 ∨ z (2 * i + k) < loZ z k i
    · rw [if_pos hc, if_pos (by simpa using hc)]; exact ⟨h3, h4⟩
    · rw [if_neg hc, if_neg (by simpa using hc)]; exact ⟨h1, h2⟩
theorem hi_F {k : Nat} (hk : k < 2) : ∀ i, i ≤ len → FI (rhi g k i) (hiZ z k i) ∧ (hiZ z k i).natAbs ≤ 4194304
  | 0, _ => ⟨zero_FI, by simp [hiZ]⟩
  | i + 1, h => by
    obtain ⟨h1, h2⟩ := hi_F hk i (by omega)
    obtain ⟨h1', h2'⟩ := lo_F hg hk i (by omega)
    obtain ⟨h3, h4⟩ := hg (2 * i + k) (by omega)
    show FI (hiStep i (g (2 * i + k)) (rlo g k i) (rhi g k i)) (hiZ z k (i + 1)) ∧ (hiZ z k (i + 1)).natAbs ≤ 4194304
    unfold hiStep hiZ
    rw [flt_I h3 h1', fgt_I h3 h1]
    by_cases c0 : i = 0
    · rw [if_pos c0, if_pos c0]; exact ⟨h3, h4⟩
    rw [if_neg c0, if_neg c0]
    by_cases c1 : z (2 * i + k) < loZ z k i
    · rw [if_pos c1, if_pos (decide_eq_true c1)]; exact ⟨h1, h2⟩
    rw [if_neg c1, if_neg (by simpa using c1)]
    by_cases c2 : hiZ z k i < z (2 * i + k)
    · rw [if_pos c2, if_pos (decide_eq_true c2)]; exact ⟨h3, h4⟩
    · rw [if_neg c2, if_neg (by simpa using c2)]; exact ⟨h1, h2⟩

theorem zc_F {i : Nat} (hi : i < len) (h2 : 2 ≤ len) : zcOk (g (2 * i)) (g (2 * i + 1)) (g (2 * nx len i)) (g (2 * nx len i + 1)) (g (2 * nx2 len i)) (g (2 * nx2 len i + 1)) ∧
    FI (zcF g len i) (zcZ z len i) := by
  have n1 := nx_lt hi
  have n2 := nx2_lt hi h2
  obtain ⟨fa, ba⟩ := hg (2 * i) (by omega)
  obtain ⟨fa', ba'⟩ := hg (2 * i + 1) (by omega)
  obtain ⟨fb, bb⟩ := hg (2 * nx len i) (by omega)
  obtain ⟨fb', bb'⟩ := hg (2 * nx len i + 1) (by omega)
  obtain ⟨fc, bc⟩ := hg (2 * nx2 len i) (by omega)
  obtain ⟨fc', bc'⟩ := hg (2 * nx2 len i + 1) (by omega)
  have s1 := natAbs_sub_le bb ba
  have s2 := natAbs_sub_le bc' bb'
  have s3 := natAbs_sub_le bb' ba'
  have s4 := natAbs_sub_le bc bb
  have p1 := natAbs_mul_le s1 s2
  have p2 := natAbs_mul_le s3 s4
  obtain ⟨k1, e1⟩ := sub_F fb fa (by omega)
  obtain ⟨k2, e2⟩ := sub_F fc' fb' (by omega)
  obtain ⟨k3, e3⟩ := sub_F fb' fa' (by omega)
  obtain ⟨k4, e4⟩ := sub_F fc fb (by omega)
  obtain ⟨k5, e5⟩ := mul_of e1 e2 (by omega)
  obtain ⟨k6, e6⟩ := mul_of e3 e4 (by omega)
  obtain ⟨k7, e7⟩ := sub_F e5 e6 (by omega)
  exact ⟨⟨k1, k2, k5, k3, k4, k6, k7⟩, e7⟩

include hl in
theorem cw_F : ∀ i, i ≤ len → FI (cwF g len i) (cwZ z len i) ∧ (cwZ z len i).natAbs ≤ i * 70368744177664 ∧
    (i < len → cwOk (cwF g len i) (g (2 * i)) (g (2 * i + 1)) (g (2 * nx len i)) (g (2 * nx len i + 1)) ∧ FI (cwF g len (i + 1)) (cwZ z len (i + 1)) ∧ (cwZ z len (i + 1)).natAbs ≤ (i + 1) * 70368744177664)
  | i, h => by
    have base : FI (cwF g len i) (cwZ z len i) ∧ (cwZ z len i).natAbs ≤ i * 70368744177664 := by
      cases i with
      | zero => exact ⟨zero_FI, by simp [cwZ]⟩
      | succ j => exact ((cw_F j (by omega)).2.2 (by omega)).2
    refine ⟨base.1, base.2, fun hi => ?_⟩
    have n1 := nx_lt hi
    obtain ⟨fa, ba⟩ := hg (2 * i) (by omega)
    obtain ⟨fa', ba'⟩ := hg (2 * i + 1) (by omega)
    obtain ⟨fb, bb⟩ := hg (2 * nx len i) (by omega)
    obtain ⟨fb', bb'⟩ := hg (2 * nx len i + 1) (by omega)
    have s1 := natAbs_sub_le bb ba
    have s2 := natAbs_add_le' bb' ba'
    have p1 := natAbs_mul_le s1 s2
    obtain ⟨k1, e1⟩ := sub_F fb fa (by omega)
    obtain ⟨k2, e2⟩ := add_F fb' fa' (by omega)
    obtain ⟨k3, e3⟩ := mul_of e1 e2 (by omega)
    obtain ⟨k4, e4⟩ := add_F base.1 e3 (by omega)
    exact ⟨⟨k1, k2, k3, k4⟩, e4, by show (cwZ z len i + _).natAbs ≤ _; omega⟩

include hl in
theorem ppOk_F (h2 : 2 ≤ len) : ppOk g len := fun i hi => ⟨((cw_F hl hg i (by omega)).2.2 hi).1, (zc_F hg hi h2).1⟩

end

theorem loZ_le {z : Nat → Int} {k : Nat} : ∀ {i j : Nat}, j < i → loZ z k i ≤ z (2 * j + k)
  | 0, _, h => by omega
  | i + 1, j, h => by
    unfold loZ
    split
    · rename_i hc
      by_cases e : j = i
      · subst e; exact Int.le_refl _
      · rcases hc with rfl | hc
        · omega
        · exact Int.le_trans (Int.le_of_lt hc) (loZ_le (by omega))
    · rename_i hc
      by_cases e : j = i
      · subst e; omega
      · exact loZ_le (by omega)
theorem hiZ_ge {z : Nat → Int} {k : Nat} : ∀ {i j : Nat}, j < i → z (2 * j + k) ≤ hiZ z k i
  | 0, _, h => by omega
  | i + 1, j, h => by
    have hl := fun (hi : 0 < i) => loZ_le (z := z) (k := k) (i := i) (j := 0) hi
    have hh := fun (hi : 0 < i) => hiZ_ge (z := z) (k := k) (i := i) (j := 0) hi
    unfold hiZ
    split
    · have : j = i := by omega
      subst this; exact Int.le_refl _
    · have hl := hl (by omega)
      have hh := hh (by omega)
      by_cases e : j = i
      · subst e
        split
        · omega
        · split <;> omega
      · have h3 := hiZ_ge (z := z) (k := k) (i := i) (j := j) (by omega)
        split
        · exact h3
        · split
          · omega
          · exact h3
end Go.Proofs.Tryz.Sx

/- FnGeoShape: the law's own functions. -/
namespace Go.Proofs.Tryz.Sx
open Go Go.Sx Go.Proofs Go.Fl Go.Geo
set_option maxRecDepth 100000

def toL (len : Nat) (g : Nat → Int) : Fam := ⟨Nat, fun i =>
  ⟨18, [(3, .slcc 1 i), (6, .slcc 0 len), (7, .int .i64 len), (8, .int .i64 i)], [(0, ⟨false, 28, .ints .i64 (2 * len) g, 0⟩), (1, ⟨true, 23, .ints .i64 (2 * i) g, 2⟩)], 2⟩, fun i => i ≤ len, fun i => len - i⟩
noncomputable def geoToC : List SV → RdM
  | [.slcc n len] => .read n fun o0 => (match intsFrom .i64 o0.c with
    | some (m0, g) => .ret ⟨[.slcc 0 len], [(0, ⟨false, 28, .ints .i64 m0 g, 0⟩)], .slcc 1 len, [], [(1, ⟨true, 23, .ints .i64 (2 * len) g, 2⟩)], some (m0 = 2 * len ∧ len ≤ 1000000)⟩
    | none => .fail)
  | _ => .fail
theorem vc_geoTo (len : Nat)  (g : Nat → Int) : runA G0 1 [(3, toL len g)] [] (codeOf Tryz.f34) (init Tryz.f34.ntmps [.slcc 0 len] [(0, ⟨false, 28, .ints .i64 (2 * len) g, 0⟩)] 1) (endK G0.E.T Tryz.f34.results.toList fun S v => postP 1 ⟨[.slcc 0 len], [(0, ⟨false, 28, .ints .i64 (2 * len) g, 0⟩)], .slcc 1 len, [], [(1, ⟨true, 23, .ints .i64 (2 * len) g, 2⟩)], some (2 * len = 2 * len ∧ len ≤ 1000000)⟩ S v) = (
(∃ (i : Nat), i ≤ len ∧ (i = 0 ∧ (True ∧ len = len) ∧ (↑len : Int) = (↑len : Int) ∧ (0 : Int) = (↑i : Int) ∧ True) ∧ True ∧ (2 * len ≤ 2 * len ∧ ∀ (i : Nat), i < 2 * len → g i = g i) ∧ True ∧ 2 * i = 0
∧ True) ∧ ∀ (i : Nat), i ≤ len → (decide ((↑i : Int) < (↑len : Int)) = true → (((0 : Int) ≤ (↑i : Int) ∧ (↑i : Int) < (↑len : Int)) ∧ 1 ≤ 2 * len) ∧ 0 + Int.toNat (↑i : Int) * 2 + 2 ≤ 2 * len ∧ (2 * i = i * 2 ∧ (i + 1) * 16 ≤ 140737488355328 ∧ i + 1 ≤ 9223372036854775807) ∧ ∃ (i' : Nat), i' ≤ len ∧ len - i' < len - i ∧ ((True ∧ i + 1 = i') ∧ (True ∧ len = len) ∧ (↑len : Int) = (↑len
: Int) ∧ Go.IntKind.wrap .i64 ((↑i : Int) + (1 : Int)) = (↑i' : Int) ∧ True) ∧ True ∧ (2 * len ≤ 2 * len ∧ ∀ (i : Nat), i < 2 * len → g i = g i) ∧ True ∧ (23 = 23 ∧ 2 = 2 ∧ 2 * i' ≤ 2 * i + List.length [g (0 + Int.toNat (↑i : Int) * 2), g (0 + Int.toNat (↑i : Int) * 2 + 1)] ∧ ∀ (i_1 : Nat), i_1 < 2 * i' → Go.Sx.more (2 * i) g [g (0 + Int.toNat (↑i : Int) * 2), g (0 + Int.toNat (↑i : Int) * 2 + 1)] (0 : Int) i_1 = g i_1) ∧ True) ∧ (decide ((↑i : Int) < (↑len : Int)) = false → (True ∧ i = len) ∧ True ∧ (23 = 23 ∧ 2 = 2 ∧ 2 * len ≤ 2 * i ∧ ∀ (i : Nat), i < 2 * len → g i = g i) ∧ True)) := by kernel_rfl
theorem geoTo : ConOk Tryz.prog 34 (conR geoToC) := by
  refine con_of_vc g0 Tryz.func34 rfl (by kernel_rfl) fun args => ?_
  unfold geoToC
  split
  · rename_i n len
    intro o0
    show RdM.All _ (match intsFrom .i64 o0.c with | some (m, g) => _ | none => _) _
    split
    · rename_i m0 g hm0
      intro ho
      replace ho : m0 = 2 * len ∧ len ≤ 1000000 := ho
      obtain ⟨hsz0, ho⟩ := ho
      subst hsz0
      refine ⟨?_, _, _, (vc_geoTo len g).mpr ?_⟩
      · refine okFlag_mk rfl ⟨?_, ⟨trivial, (contR_ints hm0).1, trivial⟩⟩
        simp [eqvRL, eqvR, sgSig, fsts, nth, sameN_self]
      · refine ⟨⟨0, by simp⟩, fun i hi => ⟨fun h => ?_, fun h => ?_⟩⟩
        · have h := of_decide_eq_true h
          have e : 0 + (i : Int).toNat * 2 = 2 * i := by omega
          refine ⟨by omega, by omega, by omega, i + 1, by omega, by omega, ⟨⟨trivial, rfl⟩, ⟨trivial, rfl⟩, rfl, ?_, trivial⟩, trivial, ⟨Nat.le_refl _, fun _ _ => rfl⟩, trivial, ⟨rfl, rfl, ?_, ?_⟩, trivial⟩
          · rw [wrap64 (by omega) (by omega)]; omega
          · show 2 * (i + 1) ≤ 2 * i + 2
            omega
          · exact more_two (by rw [e]) (by rw [e])
        · have h := of_decide_eq_false h
          have : i = len := by omega
          subst this
          exact ⟨⟨trivial, rfl⟩, trivial, ⟨rfl, rfl, Nat.le_refl _, fun _ _ => rfl⟩, trivial⟩
    · trivial
  · trivial

def GIG : Ctx := ⟨⟨tys, []⟩, [(19, conR isGeoC)]⟩
theorem gIG : CtxOk Tryz.prog GIG := ⟨⟨tysOk, FlatsOk.nil⟩, GamOk.cons isGeo GamOk.nil, by kernel_rfl⟩
noncomputable def isGeoLnC : List SV → RdM
  | [.slcc n len] => .read n fun o0 => (match intsFrom .i64 o0.c with
    | some (m0, g) => .ret ⟨[.slcc 0 len], [(0, ⟨false, 28, .ints .i64 m0 g, 0⟩)], .bool (decide (len ≤ 40) && geoAll (2 * len) g), [], [], some (m0 = 2 * len ∧ True)⟩
    | none => .fail)
  | _ => .fail
theorem vc_isGeoLn (len : Nat)  (g : Nat → Int) : runA GIG 1 [] [] (codeOf Tryz.f18) (init Tryz.f18.ntmps [.slcc 0 len] [(0, ⟨false, 28, .ints .i64 (2 * len) g, 0⟩)] 1) (endK GIG.E.T Tryz.f18.results.toList fun S v => postP 1 ⟨[.slcc 0 len], [(0, ⟨false, 28, .ints .i64 (2 * len) g, 0⟩)], .bool (decide (len ≤ 40) && geoAll (2 * len) g), [], [], some (2 * len = 2 * len ∧ True)⟩ S v) = (
(decide ((↑len : Int) ≤ (40 : Int)) = true → (2 * len = 2 * len ∧ len ≤ 1000000) ∧ geoAll (2 * len) g = (decide (len ≤ 40) && geoAll (2 * len) g) ∧ True) ∧ (decide
((↑len : Int) ≤ (40 : Int)) = false → (decide (len ≤ 40) && geoAll (2 * len) g) = false ∧ True)) := by kernel_rfl
theorem isGeoLn : ConOk Tryz.prog 18 (conR isGeoLnC) := by
  refine con_of_vc gIG Tryz.func18 rfl (by kernel_rfl) fun args => ?_
  unfold isGeoLnC
  split
  · rename_i n len
    intro o0
    show RdM.All _ (match intsFrom .i64 o0.c with | some (m, g) => _ | none => _) _
    split
    · rename_i m0 g hm0
      intro ho
      replace ho : m0 = 2 * len ∧ True := ho
      obtain ⟨hsz0, ho⟩ := ho
      subst hsz0
      refine ⟨?_, _, _, (vc_isGeoLn len g).mpr ?_⟩
      · refine okFlag_mk rfl ⟨?_, ⟨trivial, (contR_ints hm0).1, trivial⟩⟩
        simp [eqvRL, eqvR, sgSig, fsts, nth, sameN_self]
      · simp
        exact ⟨fun h => ⟨by omega, fun _ => by omega⟩, fun h h2 => by omega⟩
    · trivial
  · trivial

noncomputable def gEmptyC : List SV → RdM
  | [.slcc n len, v] => .read n fun o0 => (match intsFrom .i64 o0.c with
    | some (m0, g) => (match v.toB with
    | some cl => .ret ⟨[.slcc 0 len, .bool cl], [(0, ⟨false, 28, .ints .i64 m0 g, 0⟩)], .bool (decide (len < 2 ∨ cl = true ∧ len < 3)), [], [], some (True)⟩
    | none => .fail)
    | none => .fail)
  | _ => .fail
theorem vc_gEmpty (len : Nat) (cl : Bool) (m0 : Nat) (g : Nat → Int) : runA G0 1 [] [] (codeOf Tryz.f26) (init Tryz.f26.ntmps [.slcc 0 len, .bool cl] [(0, ⟨false, 28, .ints .i64 (m0) g, 0⟩)] 1) (endK G0.E.T Tryz.f26.results.toList fun S v => postP 1 ⟨[.slcc 0 len, .bool cl], [(0, ⟨false, 28, .ints .i64 (m0) g, 0⟩)], .bool (decide (len < 2 ∨ cl = true ∧ len < 3)), [], [], some (True)⟩ S v) = (
(decide ((↑len : Int) < (2 : Int)) = true → decide (len < 2 ∨ cl = true ∧ len < 3) = true ∧ True) ∧ (decide ((↑len : Int) < (2 : Int)) = false → (cl = true → decide ((↑len : Int) < (3 : Int)) = decide (len < 2 ∨ cl = true ∧
 len < 3) ∧ True) ∧ (cl = false → decide (len < 2 ∨ cl = true ∧ len < 3) = false ∧ True))) := by kernel_rfl
theorem gEmpty : ConOk Tryz.prog 26 (conR gEmptyC) := by
  refine con_of_vc g0 Tryz.func26 rfl (by kernel_rfl) fun args => ?_
  unfold gEmptyC
  split
  · rename_i n len v
    intro o0
    show RdM.All _ (match intsFrom .i64 o0.c with | some (m, g) => _ | none => _) _
    split
    · rename_i m0 g hm0
      show RdM.All _ (match v.toB with | some b => _ | none => _) _
      split
      · rename_i cl hcl
        intro ho
        replace ho : True := ho
        refine ⟨?_, _, _, (vc_gEmpty len cl m0 g).mpr ?_⟩
        · refine okFlag_mk rfl ⟨?_, ⟨trivial, (contR_ints hm0).1, trivial⟩⟩
          simp [eqvRL, eqvR, sgSig, fsts, nth, sameN_self, toB_eqvR hcl]
        · simp
          refine ⟨fun h => .inl (by omega), fun h => ⟨fun hc => ?_, fun hc => ⟨by omega, fun h => by simp [hc] at h⟩⟩⟩
          subst hc
          rw [Bool.true_and]
          by_cases h3 : len < 3 <;> simp [h3] <;> omega
      · trivial
    · trivial
  · trivial

def pq2 (x y : Int) (j : Nat) : Int := [x, y].getD j 0
def pq4 (a b c d : Int) (j : Nat) : Int := [a, b, c, d].getD j 0
noncomputable def GTO : Ctx := ⟨⟨tys, []⟩, [(34, conR geoToC)]⟩
theorem gTO : CtxOk Tryz.prog GTO := ⟨⟨tysOk, FlatsOk.nil⟩, GamOk.cons geoTo GamOk.nil, by kernel_rfl⟩
noncomputable def pShapeC : List SV → RdM
  | [.agg [.int .i64 x, .int .i64 y]] => .ret ⟨[.agg [.int .i64 x, .int .i64 y]], [], .agg [.int .i64 0, .slcc 0 1, .nils], [], [(0, ⟨true, 23, .ints .i64 2 (pq2 x y), 2⟩)], some (True)⟩
  | _ => .fail
theorem vc_pShape (x y : Int) : runA GTO 0 [] [] (codeOf Tryz.f23) (init Tryz.f23.ntmps [.agg [.int .i64 x, .int .i64 y]] [] 0) (endK GTO.E.T Tryz.f23.results.toList fun S v => postP 0 ⟨[.agg [.int .i64 x, .int .i64 y]], [], .agg [.int .i64 0, .slcc 0 1, .nils], [], [(0, ⟨true, 23, .ints .i64 2 (pq2 x y), 2⟩)], some (True)⟩ S v) = (
(List.length [x, y] = 2 ∧ 1 ≤ 1000000) ∧ ((0 : Int) = (0 : Int) ∧ (True ∧ 1 = 1) ∧ True ∧ True) ∧ True ∧ (23 = 23 ∧ 2 = 2 ∧ 2 ≤ 2 ∧ ∀ (i : Nat), i < 2 →
 List.getD [x, y] i (0 : Int) = pq2 x y i) ∧ True) := by kernel_rfl
theorem pShape : ConOk Tryz.prog 23 (conR pShapeC) := by
  refine con_of_vc gTO Tryz.func23 rfl (by kernel_rfl) fun args => ?_
  unfold pShapeC
  split
  · rename_i x y
    intro ho
    replace ho : True := ho
    refine ⟨?_, _, _, (vc_pShape x y).mpr ?_⟩
    · refine okFlag_mk rfl ⟨?_, trivial⟩
      simp [eqvRL, eqvR, kEq_self]
    · simp [pq2]
  · trivial
noncomputable def rShapeC : List SV → RdM
  | [.agg [.int .i64 a, .int .i64 b, .int .i64 c, .int .i64 d]] => .ret ⟨[.agg [.int .i64 a, .int .i64 b, .int .i64 c, .int .i64 d]], [], .agg [.int .i64 1, .slcc 0 2, .nils], [], [(0, ⟨true, 23, .ints .i64 4 (pq4 a b c d), 2⟩)], some (True)⟩
  | _ => .fail
theorem vc_rShape (a b c d : Int) : runA GTO 0 [] [] (codeOf Tryz.f25) (init Tryz.f25.ntmps [.agg [.int .i64 a, .int .i64 b, .int .i64 c, .int .i64 d]] [] 0) (endK GTO.E.T Tryz.f25.results.toList fun S v => postP 0 ⟨[.agg [.int .i64 a, .int .i64 b, .int .i64 c, .int .i64 d]], [], .agg [.int .i64 1, .slcc 0 2, .nils], [], [(0, ⟨true, 23, .ints .i64 4 (pq4 a b c d), 2⟩)], some (True)⟩ S v) = (
(((0 : Int) ≤ (0 : Int) ∧ (0 : Int) < (2 : Int)) ∧ True) ∧ (((0 : Int) ≤ (1 : Int) ∧ (1 : Int) < (2 : Int)) ∧ True) ∧ (List.length [a, b, c, d] = 4 ∧ 2 ≤ 1000000) ∧ ((1 : Int) = (1 : Int) ∧ (True ∧ 2 = 2) ∧
 True ∧ True) ∧ True ∧ (23 = 23 ∧ 2 = 2 ∧ 4 ≤ 4 ∧ ∀ (i : Nat), i < 4 → List.getD [a, b, c, d] i (0 : Int) = pq4 a b c d i) ∧ True) := by kernel_rfl
theorem rShape : ConOk Tryz.prog 25 (conR rShapeC) := by
  refine con_of_vc gTO Tryz.func25 rfl (by kernel_rfl) fun args => ?_
  unfold rShapeC
  split
  · rename_i a b c d
    intro ho
    replace ho : True := ho
    refine ⟨?_, _, _, (vc_rShape a b c d).mpr ?_⟩
    · refine okFlag_mk rfl ⟨?_, trivial⟩
      simp [eqvRL, eqvR, kEq_self]
    · simp [pq4]
  · trivial
noncomputable def lShapeC : List SV → RdM
  | [.slcc n len] => .read n fun o0 => (match intsFrom .i64 o0.c with
    | some (m0, g) => .ret ⟨[.slcc 0 len], [(0, ⟨false, 28, .ints .i64 m0 g, 0⟩)], .agg [.int .i64 2, .slcc 1 len, .nils], [], [(1, ⟨true, 23, .ints .i64 (2 * len) g, 2⟩)], some (m0 = 2 * len ∧ len ≤ 1000000)⟩
    | none => .fail)
  | _ => .fail
theorem vc_lShape (len : Nat)  (g : Nat → Int) : runA GTO 1 [] [] (codeOf Tryz.f28) (init Tryz.f28.ntmps [.slcc 0 len] [(0, ⟨false, 28, .ints .i64 (2 * len) g, 0⟩)] 1) (endK GTO.E.T Tryz.f28.results.toList fun S v => postP 1 ⟨[.slcc 0 len], [(0, ⟨false, 28, .ints .i64 (2 * len) g, 0⟩)], .agg [.int .i64 2, .slcc 1 len, .nils], [], [(1, ⟨true, 23, .ints .i64 (2 * len) g, 2⟩)], some (2 * len = 2 * len ∧ len ≤ 1000000)⟩ S v) = (
(2 * len = 2 * len ∧ len ≤ 1000000) ∧ ((2 : Int) = (2 : Int) ∧ (True ∧ len = len) ∧ True ∧ True) ∧ True ∧ (23 = 23 ∧ 2 = 2 ∧ 2 * len ≤ 2 * len ∧ ∀ (i : Nat), i < 2 * len
→ g i = g i) ∧ True) := by kernel_rfl
theorem lShape : ConOk Tryz.prog 28 (conR lShapeC) := by
  refine con_of_vc gTO Tryz.func28 rfl (by kernel_rfl) fun args => ?_
  unfold lShapeC
  split
  · rename_i n len
    intro o0
    show RdM.All _ (match intsFrom .i64 o0.c with | some (m, g) => _ | none => _) _
    split
    · rename_i m0 g hm0
      intro ho
      replace ho : m0 = 2 * len ∧ len ≤ 1000000 := ho
      obtain ⟨hsz0, ho⟩ := ho
      subst hsz0
      refine ⟨?_, _, _, (vc_lShape len g).mpr ?_⟩
      · refine okFlag_mk rfl ⟨?_, ⟨trivial, (contR_ints hm0).1, trivial⟩⟩
        simp [eqvRL, eqvR, sgSig, fsts, nth, sameN_self]
      · simp [ho]
    · trivial
  · trivial
end Go.Proofs.Tryz.Sx

/- geoMoved, by the shape's kinds. -/
namespace Go.Proofs.Tryz.Sx
open Go Go.Sx Go.Proofs Go.Fl Go.Geo
set_option maxRecDepth 100000

def mw (g : Nat → Int) (dx dy : Int) (j : Nat) : Int := IntKind.i64.wrap (g j + if j % 2 = 0 then dx else dy)
theorem mw_of {g : Nat → Int} {dx dy : Int} {j : Nat} (hg : small (g j)) (hx : small dx) (hy : small dy) : mw g dx dy j = g j + if j % 2 = 0 then dx else dy := by
  unfold mw
  unfold small at hg hx hy
  split <;> exact wrap64 (by omega) (by omega)
theorem whl_fI {g : Nat → Int} {m : Nat} (h : ∀ j, j < m → small (g j)) : Whl (fI g) g m := fun j hj => ⟨fi (h j hj), by have := h j hj; unfold small at this; omega⟩
def mz (g : Nat → Int) (dx dy : Int) (j : Nat) : Int := g j + if j % 2 = 0 then dx else dy
theorem add_small {a b : Int} (ha : small a) (hb : small b) : fok .add .f64 (ofI .f64 a) (ofI .f64 b) ∧ FI (fop .add .f64 (ofI .f64 a) (ofI .f64 b)) (a + b) ∧ toIok .f64 (fop .add .f64 (ofI .f64 a) (ofI .f64 b)) .i64 ∧ toI .f64 (fop .add .f64 (ofI .f64 a) (ofI .f64 b)) .i64 = a + b := by
  obtain ⟨h1, h2⟩ := add_of ha hb
  obtain ⟨h3, h4⟩ := toI_FI h2 (by unfold small at ha hb; omega)
  exact ⟨h1, h2, h3, h4⟩
section
variable {g : Nat → Int} {len : Nat} {dx dy : Int} (hg : ∀ j, j < 2 * len → small (g j)) (hx : small dx) (hy : small dy)
include hg hx hy
theorem mv_at {j : Nat} (hj : j < 2 * len) : fok .add .f64 (fI g j) (if j % 2 = 0 then ofI .f64 dx else ofI .f64 dy) ∧ FI (mvG g len dx dy j) (mz g dx dy j) ∧ toIok .f64 (mvG g len dx dy j) .i64 ∧ toI .f64 (mvG g len dx dy j) .i64 = mz g dx dy j := by
  have e : mvG g len dx dy j = fop .add .f64 (fI g j) (if j % 2 = 0 then ofI .f64 dx else ofI .f64 dy) := by
    unfold mvG mvI mvd
    rw [if_pos hj]
  rw [e]
  unfold mz fI
  split
  · exact add_small (hg j hj) hx
  · exact add_small (hg j hj) hy
theorem whl_mv : Whl (mvG g len dx dy) (mz g dx dy) (2 * len) := fun j hj => by
  refine ⟨(mv_at hg hx hy hj).2.1, ?_⟩
  have := hg j hj
  unfold mz
  unfold small at this hx hy
  split <;> omega
theorem agree_mv : agree (2 * len) (wI (mvG g len dx dy)) (mw g dx dy) := fun j hj => by
  unfold wI
  rw [(mv_at hg hx hy hj).2.2.2, mw_of (hg j hj) hx hy]
  rfl
end
theorem pp_two {len : Nat} {cl : Bool} (h : ppBig len cl = true) : 2 ≤ len := (of_decide_eq_true h).1
def gmL (K : Int) (len : Nat) (g : Nat → Int) (dx dy : Int) : Fam := ⟨Nat, fun i =>
  ⟨48, [(2, .ptr 1 0), (3, .ptr 2 0), (5, .slcc 3 i), (10, .slcc 0 len), (11, .int .i64 len), (12, .int .i64 i)], [(0, ⟨false, 23, .ints .i64 (2 * len) g, 0⟩), (1, ⟨true, 39, .cells [.int .i64 K, .slcc 0 len, .nils], 0⟩), (2, ⟨true, 28, .cells [.int .i64 dx, .int .i64 dy], 0⟩), (3, ⟨true, 28, .ints .i64 (2 * i) (mw g dx dy), 2⟩)], 4⟩, fun i => i ≤ len, fun i => len - i⟩

noncomputable def GGM0 : Ctx := ⟨⟨tys, []⟩, [(52, conR moved0C), (66, conR geoSameC)]⟩
theorem gGM0 : CtxOk Tryz.prog GGM0 := ⟨⟨tysOk, FlatsOk.nil⟩, GamOk.cons moved0 (GamOk.cons geoSame GamOk.nil), by kernel_rfl⟩
noncomputable def geoMv0C : List SV → RdM
  | [.agg [.int .i64 0, .slcc n len, .nils], .agg [.int .i64 dx, .int .i64 dy]] => .read n fun o0 => (match intsFrom .i64 o0.c with
    | some (m0, g) => .ret ⟨[.agg [.int .i64 0, .slcc 0 len, .nils], .agg [.int .i64 dx, .int .i64 dy]], [(0, ⟨false, 23, .ints .i64 m0 g, 0⟩)], .tt, [], [], some (m0 = 2 * len ∧ len = 1 ∧ (∀ j, j < 2 * len → small (g j)) ∧ small dx ∧ small dy)⟩
    | none => .fail)
  | _ => .fail
theorem vc_geoMv0 (len : Nat) (dx dy : Int)  (g : Nat → Int) : runA GGM0 1 [(3, gmL 0 len g dx dy)] [] (codeOf Tryz.f29) (init Tryz.f29.ntmps [.agg [.int .i64 0, .slcc 0 len, .nils], .agg [.int .i64 dx, .int .i64 dy]] [(0, ⟨false, 23, .ints .i64 (2 * len) g, 0⟩)] 1) (endK GGM0.E.T Tryz.f29.results.toList fun S v => postP 1 ⟨[.agg [.int .i64 0, .slcc 0 len, .nils], .agg [.int .i64 dx, .int .i64 dy]], [(0, ⟨false, 23, .ints .i64 (2 * len) g, 0⟩)], .tt, [], [], some (2 * len = 2 * len ∧ len = 1 ∧ (∀ j, j < 2 * len → small (g j)) ∧ small dx ∧ small dy)⟩ S v) = (
(∃ (i : Nat), i ≤ len ∧ ((True ∧ 0 = 0) ∧ (True ∧ 0 = 0) ∧ i = 0 ∧ (True ∧ len = len) ∧ (↑len : Int) = (↑len : Int) ∧ (0 : Int) = (↑i : Int) ∧ True) ∧ True ∧ (2 * len ≤ 2 * len ∧ ∀ (i : Nat), i
< 2 * len → g i = g i) ∧ True ∧ (39 = 39 ∧ 0 = 0 ∧ (0 : Int) = (0 : Int) ∧ (True ∧ len = len) ∧ True ∧ True) ∧ True ∧ (28 = 28 ∧ 0 = 0 ∧ dx = dx ∧ dy = dy ∧ True) ∧ True ∧ 2 * i = 0 ∧ True) ∧ ∀ (i : Nat), i ≤ len → (decide ((↑i : Int) < (↑len : Int)) = true → (((0 : Int) ≤ (↑i : Int) ∧ (↑i : Int) < (↑len : Int)) ∧ 1 ≤ 2 * len) ∧ 0 + Int.toNat (↑i : Int) * 2 + 2 ≤ 2 * len ∧ (2 * i = i * 2 ∧ (i + 1) * 16 ≤ 140737488355328 ∧ i + 1 ≤ 9223372036854775807) ∧ ∃ (i' : Nat), i' ≤ len ∧ len - i' < len - i ∧ ((True ∧ 0 = 0) ∧ (True ∧ 0 =
0) ∧ (True ∧ i + 1 = i') ∧ (True ∧ len = len) ∧ (↑len : Int) = (↑len : Int) ∧ Go.IntKind.wrap .i64 ((↑i : Int) + (1 : Int)) = (↑i' : Int) ∧ True) ∧ True ∧ (2 * len ≤ 2 * len ∧ ∀ (i : Nat), i < 2 * len → g i = g
 i) ∧ True ∧ (39 = 39 ∧ 0 = 0 ∧ (0 : Int) = (0 : Int) ∧ (True ∧ len = len) ∧ True ∧ True) ∧ True ∧ (28 = 28 ∧ 0 = 0 ∧ dx = dx ∧ dy = dy ∧ True) ∧ True ∧ (28 = 28 ∧ 2 = 2 ∧ 2 * i' ≤ 2 * i + List.length [Go.IntKind.wrap .i64 (g (0 + Int.toNat (↑i : Int) * 2) + dx), Go.IntKind.wrap .i64 (g (0 + Int.toNat (↑i : Int) * 2 + 1) + dy)] ∧ ∀ (i_1 : Nat),
 i_1 < 2 * i' → Go.Sx.more (2 * i) (mw g dx dy) [Go.IntKind.wrap .i64 (g (0 + Int.toNat (↑i : Int) * 2) + dx), Go.IntKind.wrap .i64 (g (0 + Int.toNat (↑i : Int) * 2 + 1) + dy)]
(0 : Int) i_1 = mw g dx dy i_1) ∧ True) ∧ (decide ((↑i : Int) < (↑len : Int)) = false → (2 * len = 2 * len ∧ mvOk g len (0 : Int) 0 dx ∧ mvOk g len (0 : Int) 1 dy)
∧ (true = true → (1 = i ∧ List.length [Go.Sx.toI .f64 (mv1 g len (0 : Int) 0 dx) .i64, Go.Sx.toI .f64 (mv1 g len (0 : Int) 1 dy) .i64] = 2 ∧ 2 * i = 2 ∧ 1 ≤
1000000) ∧ decide (agree 2 (fun (i : Nat) => List.getD [Go.Sx.toI .f64 (mv1 g len (0 : Int) 0 dx) .i64, Go.Sx.toI .f64 (mv1 g len (0 : Int) 1 dy) .i64] i (0 : Int))
(mw g dx dy)) = true ∧ True) ∧ (true = false → False ∧ True))) := by kernel_rfl
theorem geoMv0 : ConOk Tryz.prog 29 (conR geoMv0C) := by
  refine con_of_vc gGM0 Tryz.func29 rfl (by kernel_rfl) fun args => ?_
  unfold geoMv0C
  split
  · rename_i n len dx dy
    intro o0
    show RdM.All _ (match intsFrom .i64 o0.c with | some (m, g) => _ | none => _) _
    split
    · rename_i m0 g hm0
      intro ho
      replace ho : m0 = 2 * len ∧ len = 1 ∧ (∀ j, j < 2 * len → small (g j)) ∧ small dx ∧ small dy := ho
      obtain ⟨hsz0, ho⟩ := ho
      subst hsz0
      refine ⟨?_, _, _, (vc_geoMv0 len dx dy g).mpr ?_⟩
      · refine okFlag_mk rfl ⟨?_, ⟨trivial, (contR_ints hm0).1, trivial⟩⟩
        simp [eqvRL, eqvR, kEq_self, sgSig, fsts, nth, sameN_self]
      · obtain ⟨hl, hg, hx, hy⟩ := ho
        refine ⟨⟨0, by omega, by simp⟩, fun i hi => ⟨fun h => ?_, fun h => ?_⟩⟩
        · have h := of_decide_eq_true h
          have e : 0 + (i : Int).toNat * 2 = 2 * i := by omega
          have hw : IntKind.i64.wrap ((i : Int) + 1) = ((i + 1 : Nat) : Int) := by rw [wrap64 (by omega) (by omega)]; omega
          rw [e, hw]
          refine ⟨by omega, by omega, by omega, i + 1, by omega, by omega, ?_⟩
          have m1 : IntKind.i64.wrap (g (2 * i) + dx) = mw g dx dy (2 * i) := by unfold mw; rw [if_pos (by omega)]
          have m2 : IntKind.i64.wrap (g (2 * i + 1) + dy) = mw g dx dy (2 * i + 1) := by unfold mw; rw [if_neg (by omega)]
          simp
          exact ⟨by omega, more_two m1 m2⟩
        · have h := of_decide_eq_false h
          have : i = len := by omega
          subst this
          have a1 := add_small (hg 0 (by omega)) hx
          have a2 := add_small (hg 1 (by omega)) hy
          have c0 : crn g i 0 0 = g 0 := by unfold crn; rw [if_pos (by omega)]; rfl
          have c1 : crn g i 0 1 = g 1 := by unfold crn; rw [if_pos (by omega)]; rfl
          have k0 : mvOk g i 0 0 dx := by unfold mvOk mv1 fcr; rw [c0]; exact ⟨a1.1, a1.2.2.1⟩
          have k1 : mvOk g i 0 1 dy := by unfold mvOk mv1 fcr; rw [c1]; exact ⟨a2.1, a2.2.2.1⟩
          have v0 : toI .f64 (mv1 g i 0 0 dx) .i64 = g 0 + dx := by unfold mv1 fcr; rw [c0]; exact a1.2.2.2
          have v1 : toI .f64 (mv1 g i 0 1 dy) .i64 = g 1 + dy := by unfold mv1 fcr; rw [c1]; exact a2.2.2.2
          refine ⟨⟨rfl, k0, k1⟩, fun _ => ⟨⟨by omega, rfl, by omega, by omega⟩, decide_eq_true ?_, trivial⟩, fun h => by simp at h⟩
          rw [v0, v1]
          intro j hj
          rw [mw_of (hg j (by omega)) hx hy]
          have : j = 0 ∨ j = 1 := by omega
          rcases this with rfl | rfl <;> rfl
    · trivial
  · trivial

noncomputable def GGM1 : Ctx := ⟨⟨tys, []⟩, [(52, conR moved1C), (66, conR geoSameC)]⟩
theorem gGM1 : CtxOk Tryz.prog GGM1 := ⟨⟨tysOk, FlatsOk.nil⟩, GamOk.cons moved1 (GamOk.cons geoSame GamOk.nil), by kernel_rfl⟩
noncomputable def geoMv1C : List SV → RdM
  | [.agg [.int .i64 1, .slcc n len, .nils], .agg [.int .i64 dx, .int .i64 dy]] => .read n fun o0 => (match intsFrom .i64 o0.c with
    | some (m0, g) => .ret ⟨[.agg [.int .i64 1, .slcc 0 len, .nils], .agg [.int .i64 dx, .int .i64 dy]], [(0, ⟨false, 23, .ints .i64 m0 g, 0⟩)], .tt, [], [], some (m0 = 2 * len ∧ len = 2 ∧ (∀ j, j < 2 * len → small (g j)) ∧ small dx ∧ small dy)⟩
    | none => .fail)
  | _ => .fail
theorem vc_geoMv1 (len : Nat) (dx dy : Int)  (g : Nat → Int) : runA GGM1 1 [(3, gmL 1 len g dx dy)] [] (codeOf Tryz.f29) (init Tryz.f29.ntmps [.agg [.int .i64 1, .slcc 0 len, .nils], .agg [.int .i64 dx, .int .i64 dy]] [(0, ⟨false, 23, .ints .i64 (2 * len) g, 0⟩)] 1) (endK GGM1.E.T Tryz.f29.results.toList fun S v => postP 1 ⟨[.agg [.int .i64 1, .slcc 0 len, .nils], .agg [.int .i64 dx, .int .i64 dy]], [(0, ⟨false, 23, .ints .i64 (2 * len) g, 0⟩)], .tt, [], [], some (2 * len = 2 * len ∧ len = 2 ∧ (∀ j, j < 2 * len → small (g j)) ∧ small dx ∧ small dy)⟩ S v) = (
(∃ (i : Nat), i ≤ len ∧ ((True ∧ 0 = 0) ∧ (True ∧ 0 = 0) ∧ i = 0 ∧ (True ∧ len = len) ∧ (↑len : Int) = (↑len : Int) ∧ (0 : Int) = (↑i : Int) ∧ True) ∧ True ∧ (2 * len ≤ 2 * len ∧ ∀ (i : Nat), i
< 2 * len → g i = g i) ∧ True ∧ (39 = 39 ∧ 0 = 0 ∧ (1 : Int) = (1 : Int) ∧ (True ∧ len = len) ∧ True ∧ True) ∧ True ∧ (28 = 28 ∧ 0 = 0 ∧ dx = dx ∧ dy = dy ∧ True) ∧ True ∧ 2 * i = 0 ∧ True) ∧ ∀ (i : Nat), i ≤ len → (decide ((↑i : Int) < (↑len : Int)) = true → (((0 : Int) ≤ (↑i : Int) ∧ (↑i : Int) < (↑len : Int)) ∧ 1 ≤ 2 * len) ∧ 0 + Int.toNat (↑i : Int) * 2 + 2 ≤ 2 * len ∧ (2 * i = i * 2 ∧ (i + 1) * 16 ≤ 140737488355328 ∧ i + 1 ≤ 9223372036854775807) ∧ ∃ (i' : Nat), i' ≤ len ∧ len - i' < len - i ∧ ((True ∧ 0 = 0) ∧ (True ∧ 0 =
0) ∧ (True ∧ i + 1 = i') ∧ (True ∧ len = len) ∧ (↑len : Int) = (↑len : Int) ∧ Go.IntKind.wrap .i64 ((↑i : Int) + (1 : Int)) = (↑i' : Int) ∧ True) ∧ True ∧ (2 * len ≤ 2 * len ∧ ∀ (i : Nat), i < 2 * len → g i = g
 i) ∧ True ∧ (39 = 39 ∧ 0 = 0 ∧ (1 : Int) = (1 : Int) ∧ (True ∧ len = len) ∧ True ∧ True) ∧ True ∧ (28 = 28 ∧ 0 = 0 ∧ dx = dx ∧ dy = dy ∧ True) ∧ True ∧ (28 = 28 ∧ 2 = 2 ∧ 2 * i' ≤ 2 * i + List.length [Go.IntKind.wrap .i64 (g (0 + Int.toNat (↑i : Int) * 2) + dx), Go.IntKind.wrap .i64 (g (0 + Int.toNat (↑i : Int) * 2 + 1) + dy)] ∧ ∀ (i_1 : Nat),
 i_1 < 2 * i' → Go.Sx.more (2 * i) (mw g dx dy) [Go.IntKind.wrap .i64 (g (0 + Int.toNat (↑i : Int) * 2) + dx), Go.IntKind.wrap .i64 (g (0 + Int.toNat (↑i : Int) * 2 + 1) + dy)]
(0 : Int) i_1 = mw g dx dy i_1) ∧ True) ∧ (decide ((↑i : Int) < (↑len : Int)) = false → (2 * len = 2 * len ∧ mvOk g len (0 : Int) 0 dx ∧ mvOk g len (0 : Int) 1 dy ∧
 mvOk g len (1 : Int) 0 dx ∧ mvOk g len (1 : Int) 1 dy) ∧ (true = true → (2 = i ∧ List.length [Go.Sx.toI .f64 (mv1 g len (0 : Int) 0 dx) .i64, Go.Sx.toI .f64
(mv1 g len (0 : Int) 1 dy) .i64, Go.Sx.toI .f64 (mv1 g len (1 : Int) 0 dx) .i64, Go.Sx.toI .f64 (mv1 g len (1 : Int) 1 dy) .i64] = 4 ∧ 2 * i = 4 ∧
2 ≤ 1000000) ∧ decide (agree 4 (fun (i : Nat) => List.getD [Go.Sx.toI .f64 (mv1 g len (0 : Int) 0 dx) .i64, Go.Sx.toI .f64 (mv1 g len (0 : Int) 1 dy) .i64,
 Go.Sx.toI .f64 (mv1 g len (1 : Int) 0 dx) .i64, Go.Sx.toI .f64 (mv1 g len (1 : Int) 1 dy) .i64] i (0 : Int)) (mw g dx dy)) = true ∧ True) ∧ (true = false → False ∧ True))) := by kernel_rfl
theorem geoMv1 : ConOk Tryz.prog 29 (conR geoMv1C) := by
  refine con_of_vc gGM1 Tryz.func29 rfl (by kernel_rfl) fun args => ?_
  unfold geoMv1C
  split
  · rename_i n len dx dy
    intro o0
    show RdM.All _ (match intsFrom .i64 o0.c with | some (m, g) => _ | none => _) _
    split
    · rename_i m0 g hm0
      intro ho
      replace ho : m0 = 2 * len ∧ len = 2 ∧ (∀ j, j < 2 * len → small (g j)) ∧ small dx ∧ small dy := ho
      obtain ⟨hsz0, ho⟩ := ho
      subst hsz0
      refine ⟨?_, _, _, (vc_geoMv1 len dx dy g).mpr ?_⟩
      · refine okFlag_mk rfl ⟨?_, ⟨trivial, (contR_ints hm0).1, trivial⟩⟩
        simp [eqvRL, eqvR, kEq_self, sgSig, fsts, nth, sameN_self]
      · obtain ⟨hl, hg, hx, hy⟩ := ho
        refine ⟨⟨0, by omega, by simp⟩, fun i hi => ⟨fun h => ?_, fun h => ?_⟩⟩
        · have h := of_decide_eq_true h
          have e : 0 + (i : Int).toNat * 2 = 2 * i := by omega
          have hw : IntKind.i64.wrap ((i : Int) + 1) = ((i + 1 : Nat) : Int) := by rw [wrap64 (by omega) (by omega)]; omega
          rw [e, hw]
          refine ⟨by omega, by omega, by omega, i + 1, by omega, by omega, ?_⟩
          have m1 : IntKind.i64.wrap (g (2 * i) + dx) = mw g dx dy (2 * i) := by unfold mw; rw [if_pos (by omega)]
          have m2 : IntKind.i64.wrap (g (2 * i + 1) + dy) = mw g dx dy (2 * i + 1) := by unfold mw; rw [if_neg (by omega)]
          simp
          exact ⟨by omega, more_two m1 m2⟩
        · have h := of_decide_eq_false h
          have : i = len := by omega
          subst this
          have a1 := add_small (hg 0 (by omega)) hx
          have a2 := add_small (hg 1 (by omega)) hy
          have a3 := add_small (hg 2 (by omega)) hx
          have a4 := add_small (hg 3 (by omega)) hy
          have c0 : crn g i 0 0 = g 0 := by unfold crn; rw [if_pos (by omega)]; rfl
          have c1 : crn g i 0 1 = g 1 := by unfold crn; rw [if_pos (by omega)]; rfl
          have c2 : crn g i 1 0 = g 2 := by unfold crn; rw [if_pos (by omega)]; rfl
          have c3 : crn g i 1 1 = g 3 := by unfold crn; rw [if_pos (by omega)]; rfl
          have k0 : mvOk g i 0 0 dx := by unfold mvOk mv1 fcr; rw [c0]; exact ⟨a1.1, a1.2.2.1⟩
          have k1 : mvOk g i 0 1 dy := by unfold mvOk mv1 fcr; rw [c1]; exact ⟨a2.1, a2.2.2.1⟩
          have k2 : mvOk g i 1 0 dx := by unfold mvOk mv1 fcr; rw [c2]; exact ⟨a3.1, a3.2.2.1⟩
          have k3 : mvOk g i 1 1 dy := by unfold mvOk mv1 fcr; rw [c3]; exact ⟨a4.1, a4.2.2.1⟩
          have v0 : toI .f64 (mv1 g i 0 0 dx) .i64 = g 0 + dx := by unfold mv1 fcr; rw [c0]; exact a1.2.2.2
          have v1 : toI .f64 (mv1 g i 0 1 dy) .i64 = g 1 + dy := by unfold mv1 fcr; rw [c1]; exact a2.2.2.2
          have v2 : toI .f64 (mv1 g i 1 0 dx) .i64 = g 2 + dx := by unfold mv1 fcr; rw [c2]; exact a3.2.2.2
          have v3 : toI .f64 (mv1 g i 1 1 dy) .i64 = g 3 + dy := by unfold mv1 fcr; rw [c3]; exact a4.2.2.2
          refine ⟨⟨rfl, k0, k1, k2, k3⟩, fun _ => ⟨⟨by omega, rfl, by omega, by omega⟩, decide_eq_true ?_, trivial⟩, fun h => by simp at h⟩
          rw [v0, v1, v2, v3]
          intro j hj
          rw [mw_of (hg j (by omega)) hx hy]
          have : j = 0 ∨ j = 1 ∨ j = 2 ∨ j = 3 := by omega
          rcases this with rfl | rfl | rfl | rfl <;> rfl
    · trivial
  · trivial

noncomputable def GGM2 : Ctx := ⟨⟨tys, []⟩, [(52, conR moved2C), (66, conR geoSameC)]⟩
theorem gGM2 : CtxOk Tryz.prog GGM2 := ⟨⟨tysOk, FlatsOk.nil⟩, GamOk.cons moved2 (GamOk.cons geoSame GamOk.nil), by kernel_rfl⟩
noncomputable def geoMv2C : List SV → RdM
  | [.agg [.int .i64 2, .slcc n len, .nils], .agg [.int .i64 dx, .int .i64 dy]] => .read n fun o0 => (match intsFrom .i64 o0.c with
    | some (m0, g) => .ret ⟨[.agg [.int .i64 2, .slcc 0 len, .nils], .agg [.int .i64 dx, .int .i64 dy]], [(0, ⟨false, 23, .ints .i64 m0 g, 0⟩)], .tt, [], [], some (m0 = 2 * len ∧ len ≤ 40 ∧ (∀ j, j < 2 * len → small (g j)) ∧ small dx ∧ small dy)⟩
    | none => .fail)
  | _ => .fail
theorem vc_geoMv2 (len : Nat) (dx dy : Int)  (g : Nat → Int) : runA GGM2 1 [(3, gmL 2 len g dx dy)] [] (codeOf Tryz.f29) (init Tryz.f29.ntmps [.agg [.int .i64 2, .slcc 0 len, .nils], .agg [.int .i64 dx, .int .i64 dy]] [(0, ⟨false, 23, .ints .i64 (2 * len) g, 0⟩)] 1) (endK GGM2.E.T Tryz.f29.results.toList fun S v => postP 1 ⟨[.agg [.int .i64 2, .slcc 0 len, .nils], .agg [.int .i64 dx, .int .i64 dy]], [(0, ⟨false, 23, .ints .i64 (2 * len) g, 0⟩)], .tt, [], [], some (2 * len = 2 * len ∧ len ≤ 40 ∧ (∀ j, j < 2 * len → small (g j)) ∧ small dx ∧ small dy)⟩ S v) = (
(∃ (i : Nat), i ≤ len ∧ ((True ∧ 0 = 0) ∧ (True ∧ 0 = 0) ∧ i = 0 ∧ (True ∧ len = len) ∧ (↑len : Int) = (↑len : Int) ∧ (0 : Int) = (↑i : Int) ∧ True) ∧ True ∧ (2 * len ≤ 2 * len ∧ ∀ (i : Nat), i
< 2 * len → g i = g i) ∧ True ∧ (39 = 39 ∧ 0 = 0 ∧ (2 : Int) = (2 : Int) ∧ (True ∧ len = len) ∧ True ∧ True) ∧ True ∧ (28 = 28 ∧ 0 = 0 ∧ dx = dx ∧ dy = dy ∧ True) ∧ True ∧ 2 * i = 0 ∧ True) ∧ ∀ (i : Nat), i ≤ len → (decide ((↑i : Int) < (↑len : Int)) = true → (((0 : Int) ≤ (↑i : Int) ∧ (↑i : Int) < (↑len : Int)) ∧ 1 ≤ 2 * len) ∧ 0 + Int.toNat (↑i : Int) * 2 + 2 ≤ 2 * len ∧ (2 * i = i * 2 ∧ (i + 1) * 16 ≤ 140737488355328 ∧ i + 1 ≤ 9223372036854775807) ∧ ∃ (i' : Nat), i' ≤ len ∧ len - i' < len - i ∧ ((True ∧ 0 = 0) ∧ (True ∧ 0 =
0) ∧ (True ∧ i + 1 = i') ∧ (True ∧ len = len) ∧ (↑len : Int) = (↑len : Int) ∧ Go.IntKind.wrap .i64 ((↑i : Int) + (1 : Int)) = (↑i' : Int) ∧ True) ∧ True ∧ (2 * len ≤ 2 * len ∧ ∀ (i : Nat), i < 2 * len → g i = g
 i) ∧ True ∧ (39 = 39 ∧ 0 = 0 ∧ (2 : Int) = (2 : Int) ∧ (True ∧ len = len) ∧ True ∧ True) ∧ True ∧ (28 = 28 ∧ 0 = 0 ∧ dx = dx ∧ dy = dy ∧ True) ∧ True ∧ (28 = 28 ∧ 2 = 2 ∧ 2 * i' ≤ 2 * i + List.length [Go.IntKind.wrap .i64 (g (0 + Int.toNat (↑i : Int) * 2) + dx), Go.IntKind.wrap .i64 (g (0 + Int.toNat (↑i : Int) * 2 + 1) + dy)] ∧ ∀ (i_1 : Nat),
 i_1 < 2 * i' → Go.Sx.more (2 * i) (mw g dx dy) [Go.IntKind.wrap .i64 (g (0 + Int.toNat (↑i : Int) * 2) + dx), Go.IntKind.wrap .i64 (g (0 + Int.toNat (↑i : Int) * 2 + 1) + dy)]
(0 : Int) i_1 = mw g dx dy i_1) ∧ True) ∧ (decide ((↑i : Int) < (↑len : Int)) = false → (2 * len = 2 * len ∧ len < 64 ∧ (ppBig len false = true → ppOk (fI
 g) len) ∧ (ppBig len false = true → ppOk (mvG g len dx dy) len) ∧ (∀ (j : Nat), j < 2 * len → Go.Sx.fok BinOp.add .f64 (fI g j) (if j % 2 = 0 then
 Go.Sx.ofI .f64 dx else Go.Sx.ofI .f64 dy)) ∧ ∀ (j : Nat), j < 2 * len → Go.Sx.toIok .f64 (mvG g len dx dy j) .i64) ∧ (true = true → (len = i ∧ 2 * len = 2 * len ∧ 2 * i = 2 * len ∧ len ≤
1000000) ∧ decide (agree (2 * len) (wI (mvG g len dx dy)) (mw g dx dy)) = true ∧ True) ∧ (true = false → False ∧ True))) := by kernel_rfl
theorem geoMv2 : ConOk Tryz.prog 29 (conR geoMv2C) := by
  refine con_of_vc gGM2 Tryz.func29 rfl (by kernel_rfl) fun args => ?_
  unfold geoMv2C
  split
  · rename_i n len dx dy
    intro o0
    show RdM.All _ (match intsFrom .i64 o0.c with | some (m, g) => _ | none => _) _
    split
    · rename_i m0 g hm0
      intro ho
      replace ho : m0 = 2 * len ∧ len ≤ 40 ∧ (∀ j, j < 2 * len → small (g j)) ∧ small dx ∧ small dy := ho
      obtain ⟨hsz0, ho⟩ := ho
      subst hsz0
      refine ⟨?_, _, _, (vc_geoMv2 len dx dy g).mpr ?_⟩
      · refine okFlag_mk rfl ⟨?_, ⟨trivial, (contR_ints hm0).1, trivial⟩⟩
        simp [eqvRL, eqvR, kEq_self, sgSig, fsts, nth, sameN_self]
      · obtain ⟨hl, hg, hx, hy⟩ := ho
        refine ⟨⟨0, by omega, by simp⟩, fun i hi => ⟨fun h => ?_, fun h => ?_⟩⟩
        · have h := of_decide_eq_true h
          have e : 0 + (i : Int).toNat * 2 = 2 * i := by omega
          have hw : IntKind.i64.wrap ((i : Int) + 1) = ((i + 1 : Nat) : Int) := by rw [wrap64 (by omega) (by omega)]; omega
          rw [e, hw]
          refine ⟨by omega, by omega, by omega, i + 1, by omega, by omega, ?_⟩
          have m1 : IntKind.i64.wrap (g (2 * i) + dx) = mw g dx dy (2 * i) := by unfold mw; rw [if_pos (by omega)]
          have m2 : IntKind.i64.wrap (g (2 * i + 1) + dy) = mw g dx dy (2 * i + 1) := by unfold mw; rw [if_neg (by omega)]
          simp
          exact ⟨by omega, more_two m1 m2⟩
        · have h := of_decide_eq_false h
          have : i = len := by omega
          subst this
          have hi40 : i ≤ 64 := by omega
          have o1 : ppBig i false = true → ppOk (fI g) i := fun h => ppOk_F hi40 (whl_fI hg) (pp_two h)
          have o2 : ppBig i false = true → ppOk (mvG g i dx dy) i := fun h => ppOk_F hi40 (whl_mv hg hx hy) (pp_two h)
          refine ⟨⟨rfl, by omega, o1, o2, fun j hj => (mv_at hg hx hy hj).1, fun j hj => (mv_at hg hx hy hj).2.2.1⟩, fun _ => ⟨⟨rfl, rfl, rfl, by omega⟩, decide_eq_true (agree_mv hg hx hy), trivial⟩, fun h => by simp at h⟩
    · trivial
  · trivial
end Go.Proofs.Tryz.Sx

/- One contract or another, by the arguments. -/
namespace Go.Sx

def swC (p : List SV → Bool) (a b : Con) : Con := fun args rd nm => match p args with
  | true => a args rd nm
  | false => b args rd nm
theorem ConOk.sw {P : Program} {f : Nat} {a b : Con} {p : List SV → Bool} (ha : ConOk P f a) (hb : ConOk P f b) : ConOk P f (swC p a b) where
  calls := by
    intro W0 Fr U H ρ w nm args e hH hbd hn hc ho
    unfold swC at hc
    split at hc
    · exact ha.calls hH hbd hn hc ho
    · exact hb.calls hH hbd hn hc ho
  loc := by
    intro args rd rd' nm e hc hr
    unfold swC at hc ⊢
    split
    · rename_i hp
      rw [hp] at hc
      exact ha.loc hc hr
    · rename_i hp
      rw [hp] at hc
      exact hb.loc hc hr
/-- A shape of this kind. -/
def kindIs (k : Nat) : List SV → Bool
  | .agg (.int _ (.ofNat n) :: _) :: _ => Nat.beq n k
  | _ => false

end Go.Sx

/- FnGeoShape. -/
namespace Go.Proofs.Tryz.Sx
open Go Go.Sx Go.Proofs Go.Fl Go.Geo
set_option maxRecDepth 100000

theorem lo_mn {z : Nat → Int} {k : Nat} : ∀ {i : Nat}, 0 < i → loZ z k i = mn z k i
  | 0, h => by omega
  | 1, _ => by simp [loZ, mn, imin]
  | i + 2, _ => by
    show (if i + 1 = 0 ∨ z (2 * (i + 1) + k) < loZ z k (i + 1) then z (2 * (i + 1) + k) else loZ z k (i + 1)) = imin (mn z k (i + 1)) (z (2 * (i + 1) + k))
    rw [lo_mn (i := i + 1) (by omega)]
    unfold imin
    by_cases h : z (2 * (i + 1) + k) < mn z k (i + 1)
    · rw [if_pos (.inr h), if_pos h]
    · rw [if_neg (by omega), if_neg h]
theorem lo_hi {z : Nat → Int} {k i : Nat} (h : 0 < i) : loZ z k i ≤ hiZ z k i := Int.le_trans (loZ_le (j := 0) h) (hiZ_ge h)
theorem hi_mx {z : Nat → Int} {k : Nat} : ∀ {i : Nat}, 0 < i → hiZ z k i = mx z k i
  | 0, h => by omega
  | 1, _ => by simp [hiZ, mx, imax]
  | i + 2, _ => by
    have hl := lo_hi (z := z) (k := k) (i := i + 1) (by omega)
    show (if i + 1 = 0 then z (2 * (i + 1) + k) else if z (2 * (i + 1) + k) < loZ z k (i + 1) then hiZ z k (i + 1) else if hiZ z k (i + 1) < z (2 * (i + 1) + k) then z (2 * (i + 1) + k) else hiZ z k (i + 1)) = imax (mx z k (i + 1)) (z (2 * (i + 1) + k))
    rw [← hi_mx (i := i + 1) (by omega), if_neg (by omega)]
    unfold imax
    by_cases h : hiZ z k (i + 1) < z (2 * (i + 1) + k)
    · rw [if_neg (by omega), if_pos h]
    · rw [if_neg h]
      split <;> rfl
theorem allv_of {len : Nat} {g : Nat → Int} (hg : ∀ j, j < 2 * len → small (g j)) : allValid len (fI g) = geoValid len g := by
  unfold allValid geoValid
  refine decide_eq_decide.2 (forall_congr' fun i => ?_)
  by_cases h : i < len
  · have e : pvalid (fI g (2 * i)) (fI g (2 * i + 1)) = vld (g (2 * i)) (g (2 * i + 1)) := pvalid_of (hg _ (by omega)) (hg _ (by omega))
    simp only [h, true_implies, e]
    unfold vld
    exact decide_eq_true_iff
  · simp [h]

def i4 (a b c d : Int) : List SV := [.int .i64 a, .int .i64 b, .int .i64 c, .int .i64 d]
def ar (f : (Nat → Int) → Nat → Nat → Int) (g : Nat → Int) (len k : Nat) : Int := if len < 2 then 0 else f g k len
def gsP (a b c d : Int) (len : Nat) (g : Nat → Int) (dx dy : Int) : Prop := len ≤ 40 ∧ (∀ j, j < 2 * len → small (g j)) ∧ sm4 a b c d ∧ small dx ∧ small dy ∧ a ≤ c ∧ b ≤ d
def gsF (a b c d : Int) (len : Nat) (g : Nat → Int) (_ _ : Int) (sl : Slots) (h : Heap) (k : Nat) (P : Prop) : Fam := ⟨Nat, fun _ =>
  ⟨145, (9, .slcc 1 len) :: (10, .ptr 2 0) :: sl, (1, ⟨true, 28, .ints .i64 (2 * len) g, 2⟩) :: (2, ⟨true, 29, .cells (i4 a b c d), 0⟩) :: h, k⟩, fun _ => P, fun _ => 0⟩
def gs11 (dx dy : Int) : Nm × Ob := (3, ⟨true, 28, .cells [.int .i64 dx, .int .i64 dy], 0⟩)
def gsQ (a b c d : Int) (len : Nat) (g : Nat → Int) (dx dy : Int) (sl : Slots) (h : Heap) (k : Nat) : Fam := gsF a b c d len g dx dy ((11, .ptr 3 0) :: sl) (gs11 dx dy :: h) k (gsP a b c d len g dx dy)

noncomputable def askS : Con := swC (kindIs 0) (conR ask0C) (swC (kindIs 1) (conR ask1C) (conR ask2C))
theorem askS_ok : ConOk Tryz.prog 22 askS := ConOk.sw ask0 (ConOk.sw ask1 ask2)
noncomputable def gmvS : Con := swC (kindIs 0) (conR geoMv0C) (swC (kindIs 1) (conR geoMv1C) (conR geoMv2C))
theorem gmvS_ok : ConOk Tryz.prog 29 gmvS := ConOk.sw geoMv0 (ConOk.sw geoMv1 geoMv2)
noncomputable def GG3 : Ctx := ⟨⟨tys, FL⟩, [(16, conR geoOfC), (17, pureCon geoRectF), (18, conR isGeoLnC), (19, conR isGeoC), (20, pureCon isRectF), (21, pureCon awakeF), (22, askS), (23, conR pShapeC), (24, conR geoValidCC), (25, conR rShapeC), (26, conR gEmptyC), (27, conR gRectC), (28, conR lShapeC), (29, gmvS)]⟩
theorem gG3 : CtxOk Tryz.prog GG3 := ⟨⟨tysOk, flOk⟩, GamOk.cons geoOf (GamOk.cons (.pure geoRect) (GamOk.cons isGeoLn (GamOk.cons isGeo (GamOk.cons (.pure isRect) (GamOk.cons (.pure awake) (GamOk.cons askS_ok (GamOk.cons pShape (GamOk.cons geoValidC (GamOk.cons rShape (GamOk.cons gEmpty (GamOk.cons gRect (GamOk.cons lShape (GamOk.cons gmvS_ok GamOk.nil))))))))))))), by kernel_rfl⟩

def t24 (n : Nm) (a b c d : Int) : Nm × Ob := (n, ⟨true, 24, .cells (i4 a b c d), 0⟩)
noncomputable def lawShapeC : List SV → RdM
  | [.agg [.int .i64 a, .int .i64 b, .int .i64 c, .int .i64 d], .slcc n len, .int .i64 dx, .int .i64 dy] => .read n fun o0 => (match intsFrom .i64 o0.c with
    | some (m0, g) => .ret ⟨[.agg [.int .i64 a, .int .i64 b, .int .i64 c, .int .i64 d], .slcc 0 len, .int .i64 dx, .int .i64 dy], [(0, ⟨false, 23, .ints .i64 m0 g, 0⟩)], .tt, [], [], some (m0 = 2 * len ∧ True)⟩
    | none => .fail)
  | _ => .fail
theorem vc_lawShape (a b c d : Int) (len : Nat) (dx dy : Int)  (g : Nat → Int) : runA GG3 1 [] [(4, gsF a b c d len g dx dy [(2, .int .i64 dx), (3, .int .i64 dy)] [] 3 True), (5, gsF a b c d len g dx dy [(11, .ptr 3 0)] [gs11 dx dy] 4 True), (7, gsQ a b c d len g dx dy [] [] 4), (8, gsQ a b c d len g dx dy [(12, .ptr 4 0), (13, .bool false), (14, .bool (vld a b))] [t24 4 a b a b] 5), (10, gsQ a b c d len g dx dy [(12, .ptr 4 0)] [t24 4 a b a b] 5), (11, gsQ a b c d len g dx dy [(12, .ptr 4 0), (13, .bool false), (14, .bool (vld a b && vld c d))] [t24 4 a b c d] 5), (13, gsQ a b c d len g dx dy [(12, .ptr 4 0)] [t24 4 a b c d] 5), (14, gsQ a b c d len g dx dy [(12, .ptr 4 0), (15, .ptr 5 0)] [t24 4 a b c d, (5, ⟨true, 29, .cells (i4 0 0 0 0), 0⟩)] 6), (16, gsQ a b c d len g dx dy [(12, .ptr 4 0), (15, .ptr 5 0)] [t24 4 a b c d, (5, ⟨true, 29, .cells (i4 (ar mn g len 0) (ar mn g len 1) (ar mx g len 0) (ar mx g len 1)), 0⟩)] 6), (17, gsQ a b c d len g dx dy [(12, .ptr 4 0), (13, .bool (decide (len < 2))), (14, .bool (geoValid len g)), (15, .ptr 5 0)] [t24 4 (ar mn g len 0) (ar mn g len 1) (ar mx g len 0) (ar mx g len 1), (5, ⟨true, 29, .cells (i4 (ar mn g len 0) (ar mn g len 1) (ar mx g len 0) (ar mx g len 1)), 0⟩)] 6), (19, gsQ a b c d len g dx dy [] [] 4)] (codeOf Tryz.f3) (init Tryz.f3.ntmps [.agg [.int .i64 a, .int .i64 b, .int .i64 c, .int .i64 d], .slcc 0 len, .int .i64 dx, .int .i64 dy] [(0, ⟨false, 23, .ints .i64 (2 * len) g, 0⟩)] 1) (endK GG3.E.T Tryz.f3.results.toList fun S v => postP 1 ⟨[.agg [.int .i64 a, .int .i64 b, .int .i64 c, .int .i64 d], .slcc 0 len, .int .i64 dx, .int .i64 dy], [(0, ⟨false, 23, .ints .i64 (2 * len) g, 0⟩)], .tt, [], [], some (2 * len = 2 * len ∧ True)⟩ S v) = (
(decide ((2147483647 : Int) < (↑len : Int)) = true → True ∧ True) ∧ (decide ((2147483647 : Int) < (↑len : Int)) = false → ((2 * len = 2 * len ∧ len ≤ 2147483647) ∧ true = true ∧ ∃ (_ : Nat), True ∧ ((True ∧ len = len) ∧ (True
∧ 0 = 0) ∧ dx = dx ∧ dy = dy ∧ True) ∧ True ∧ (28 = 28 ∧ 2 = 2 ∧ 2 * len ≤ 2 * len ∧ ∀ (i : Nat), i < 2 * len → g i = g i) ∧ True ∧ (29 = 29 ∧ 0 = 0 ∧ a = a ∧ b = b ∧ c = c ∧ d = d ∧ True) ∧ True) ∧ ∀ (_ : Nat), True → (∃ (_ : Nat), True ∧ ((True ∧ len = len) ∧ (True ∧ 0 = 0) ∧ (True ∧ 0 = 0) ∧ True) ∧ True ∧ (28 = 28 ∧ 2 = 2 ∧
2 * len ≤ 2 * len ∧ ∀ (i : Nat), i < 2 * len → g i = g i) ∧ True ∧ (29 = 29 ∧ 0 = 0 ∧ a = a ∧ b = b ∧ c = c ∧ d = d ∧ True) ∧ True ∧ (28 = 28 ∧ 0 = 0 ∧ dx = dx ∧
 dy = dy ∧ True) ∧ True) ∧ ∀ (_ : Nat), True → ((2 * len = 2 * len ∧ True) ∧ ((!(decide (len ≤ 40) && geoAll (2 * len) g)) = true → True ∧ True) ∧ ((!(decide (len ≤ 40) &&
 geoAll (2 * len) g)) = false → (((0 : Int) ≤ (0 : Int) ∧ (0 : Int) < (2 : Int)) ∧ True) ∧ (((0 : Int) ≤ (1 : Int) ∧ (1 : Int) < (2 : Int)) ∧ True) ∧ (List.length [a, b, c, d, dx, dy] = 6 ∧ 3 ≤ 1000000) ∧ ((!geoAll (List.length [a, b, c, d, dx, dy]) fun (i : Nat) => List.getD [a, b, c, d, dx, dy] i (0 : Int)) = true → True ∧ True) ∧ ((!geoAll (List.length [a, b, c, d, dx, dy]) fun (i : Nat) => List.getD [a,
 b, c, d, dx, dy] i (0 : Int)) = false → ((!decide (a ≤ c ∧ b ≤ d)) = true → True ∧ True) ∧ ((!decide (a ≤ c ∧ b ≤ d)) = false → ∃ (_ : Nat), gsP a b c d len g dx dy ∧ ((True ∧ len = len) ∧ (True ∧ 0 = 0) ∧ (True ∧ 0 = 0) ∧ True) ∧ True ∧ (28 = 28 ∧ 2 = 2 ∧ 2 * len ≤ 2 * len ∧ ∀ (i : Nat), i < 2 * len → g i = g i) ∧ True ∧ (29 = 29 ∧ 0 = 0 ∧ a = a ∧ b = b ∧ c =
 c ∧ d = d ∧ True) ∧ True ∧ (28 = 28 ∧ 0 = 0 ∧ dx = dx ∧ dy = dy ∧ True) ∧ True)))) ∧ ∀ (_ : Nat), gsP a b c d len g dx dy → ((((0 : Int) ≤ (0 : Int) ∧ (0 : Int) < (2 : Int)) ∧ True) ∧ True ∧ (2 = 2 ∧ Go.Sx.toIok .f64 (fcr (pq2 a b) 1 (0 : Int) 0) .i64 ∧ Go.Sx.toIok .f64 (fcr (pq2 a b) 1 (0 : Int) 1) .i64) ∧ ∃ (_ : Nat),
 gsP a b c d len g dx dy ∧ ((True ∧ len = len) ∧ (True ∧ 0 = 0) ∧ (True ∧ 0 = 0) ∧ (True ∧ 0 = 0) ∧ false = false ∧ pvalid (fcr
(pq2 a b) 1 (0 : Int) 0) (fcr (pq2 a b) 1 (0 : Int) 1) = vld a b ∧ True) ∧ True ∧ (28 = 28 ∧ 2 = 2 ∧ 2 *
 len ≤ 2 * len ∧ ∀ (i : Nat), i < 2 * len → g i = g i) ∧ True ∧ (29 = 29 ∧ 0 = 0 ∧ a = a ∧ b = b ∧ c = c ∧ d = d ∧ True) ∧ True ∧ (28 = 28 ∧ 0 = 0 ∧ dx = dx ∧ dy = dy ∧
 True) ∧ True ∧ (24 = 24 ∧ 0 = 0 ∧ Go.Sx.toI .f64 (fcr (pq2 a b) 1 (0 : Int) 0) .i64 = a ∧ Go.Sx.toI .f64 (fcr (pq2 a b) 1
(0 : Int) 1) .i64 = b ∧ Go.Sx.toI .f64 (fcr (pq2 a b) 1 (0 : Int) 0) .i64 = a ∧ Go.Sx.toI .f64 (fcr (pq2 a b) 1 (0 : Int) 1) .i64 = b ∧
 True) ∧ True) ∧ ∀ (_ : Nat), gsP a b c d len g dx dy → (((!(a == a && (b == b && (a == a && (b == b && true))))) = true → (((0 : Int) ≤ (0 : Int) ∧ (0 : Int) < (2 : Int)) ∧ True) ∧ (((0 : Int) ≤ (0 : Int) ∧ (0 : Int) < (2 : Int)) ∧
 True) ∧ (!(a == a && (b == b && (a == a && (b == b && true))))) = true ∧ true = true ∧ False ∧ True) ∧ ((!(a == a && (b == b && (a == a && (b == b && true))))) = false → (false = true → (((0 : Int) ≤ (0 : Int) ∧ (0 : Int) < (2 : Int)) ∧ True) ∧ (((0
: Int) ≤ (0 : Int) ∧ (0 : Int) < (2 : Int)) ∧ True) ∧ (!(a == a && (b == b && (a == a && (b == b && true))))) = false ∧ false = true ∧ true = true ∧ False ∧ True) ∧ (false = false → (((0 : Int) ≤ (0 : Int) ∧ (0 : Int) < (2 : Int)) ∧ True) ∧ (((0 :
 Int) ≤ (0 : Int) ∧ (0 : Int) < (2 : Int)) ∧ True) ∧ (!(a == a && (b == b && (a == a && (b == b && true))))) = false ∧ false = false ∧ (((0 : Int) ≤ (0 : Int) ∧ (0 : Int) < (2 : Int)) ∧ True) ∧ (List.length [a, b] = 2 ∧ 1 ≤ 1000000) ∧ true = true ∧ ((!vld a b == geoValid 1 fun (i : Nat) => List.getD [a, b] i (0 : Int)) = true → False ∧ True) ∧ ((!vld a b == geoValid 1 fun (i : Nat) =>
 List.getD [a, b] i (0 : Int)) = false → ∃ (_ : Nat), gsP a b c d len g dx dy ∧ ((True ∧ len = len) ∧ (True ∧ 0 = 0) ∧ (True ∧ 0 = 0) ∧ (True ∧ 0 = 0) ∧ True) ∧ True ∧ (28 = 28 ∧ 2 = 2 ∧ 2 * len ≤ 2 * len ∧ ∀ (i : Nat), i < 2 * len → g i = g i) ∧ True ∧ (29 = 29 ∧ 0 = 0 ∧ a = a ∧ b = b ∧ c = c ∧ d = d ∧ True) ∧ True ∧ (28 = 28 ∧
0 = 0 ∧ dx = dx ∧ dy = dy ∧ True) ∧ True ∧ (24 = 24 ∧ 0 = 0 ∧ a = a ∧ b = b ∧ a = a ∧ b = b ∧ True) ∧ True)))) ∧ ∀ (_ : Nat), gsP a b c d len g dx dy → (True ∧ (4 = 4 ∧
 Go.Sx.toIok .f64 (fcr (pq4 a b c d) 2 (0 : Int) 0) .i64 ∧ Go.Sx.toIok .f64 (fcr (pq4 a b c d) 2 (0 : Int) 1) .i64 ∧ Go.Sx.toIok .f64
(fcr (pq4 a b c d) 2 (1 : Int) 0) .i64 ∧ Go.Sx.toIok .f64 (fcr (pq4 a b c d) 2 (1 : Int) 1) .i64) ∧ ∃ (_ : Nat), gsP a b c d len
 g dx dy ∧ ((True ∧ len = len) ∧ (True ∧ 0 = 0) ∧ (True ∧ 0 = 0) ∧ (True ∧ 0 = 0) ∧ false = false ∧ (pvalid (fcr (pq4 a b c d) 2 (0 : Int) 0) (fcr (pq4 a b c d) 2 (0 : Int) 1) && pvalid (fcr (pq4 a b c d) 2 (1 : Int) 0) (fcr
(pq4 a b c d) 2 (1 : Int) 1)) = (vld a b && vld c d) ∧ True) ∧ True ∧ (28 = 28 ∧ 2 = 2 ∧ 2 * len ≤ 2 * len ∧ ∀ (i : Nat), i < 2 * len → g i = g i) ∧ True ∧ (29 = 29 ∧ 0 = 0 ∧ a = a ∧ b = b ∧ c = c ∧ d = d ∧ True) ∧ True ∧ (28 = 28 ∧ 0 = 0 ∧ dx = dx ∧ dy = dy ∧ True) ∧ True ∧ (24 = 24 ∧ 0 = 0 ∧ Go.Sx.toI .f64 (fcr (pq4 a b c d) 2 (0 : Int) 0) .i64 = a ∧ Go.Sx.toI .f64 (fcr (pq4 a b c d) 2 (0 : Int) 1) .i64 = b ∧
 Go.Sx.toI .f64 (fcr (pq4 a b c d) 2 (1 : Int) 0) .i64 = c ∧ Go.Sx.toI .f64 (fcr (pq4 a b c d) 2 (1 : Int) 1) .i64 = d ∧ True) ∧ True) ∧ ∀ (_ :
 Nat), gsP a b c d len g dx dy → (((!(a == a && (b == b && (c == c && (d == d && true))))) = true → (!(a == a && (b == b && (c == c && (d == d && true))))) = true ∧ true = true ∧ False ∧ True) ∧ ((!(a == a && (b == b && (c == c && (d
== d && true))))) = false → (false = true → (!(a == a && (b == b && (c == c && (d == d && true))))) = false ∧ false = true ∧ true = true ∧ False ∧ True) ∧ (false = false → (!(a == a && (b == b && (c == c && (d == d && true))))) = false ∧ false =
 false ∧ (((0 : Int) ≤ (0 : Int) ∧ (0 : Int) < (2 : Int)) ∧ True) ∧ (((0 : Int) ≤ (1 : Int) ∧ (1 : Int) < (2 : Int)) ∧ True) ∧ (List.length [a, b, c, d] = 4 ∧ 2 ≤ 1000000) ∧ true = true ∧ ((!(vld a b &&
 vld c d) == geoValid 2 fun (i : Nat) => List.getD [a, b, c, d] i (0 : Int)) = true → False ∧ True) ∧ ((!(vld a b && vld c d) == geoValid 2 fun
(i : Nat) => List.getD [a, b, c, d] i (0 : Int)) = false → ∃ (_ : Nat), gsP a b c d len g dx dy ∧ ((True ∧ len = len) ∧ (True ∧ 0 = 0) ∧ (True ∧ 0 = 0) ∧ (True ∧ 0 = 0) ∧ True) ∧ True
∧ (28 = 28 ∧ 2 = 2 ∧ 2 * len ≤ 2 * len ∧ ∀ (i : Nat), i < 2 * len → g i = g i) ∧ True ∧ (29 = 29 ∧ 0 = 0 ∧ a = a ∧ b = b ∧ c = c ∧ d = d ∧ True) ∧ True ∧ (28 = 28 ∧ 0 = 0 ∧ dx = dx ∧ dy = dy ∧ True) ∧ True ∧ (24 = 24 ∧ 0 = 0 ∧ a = a ∧ b = b ∧ c = c ∧ d = d ∧ True) ∧ True)))) ∧ ∀ (_ : Nat), gsP a b c d len g dx dy → (∃ (_ :
 Nat), gsP a b c d len g dx dy ∧ ((True ∧ len = len) ∧ (True ∧ 0 = 0) ∧ (True ∧ 0 = 0) ∧ (True ∧ 0 = 0) ∧ (True ∧ 0 = 0) ∧ True) ∧ True ∧ (28 = 28 ∧ 2 = 2 ∧ 2 * len ≤ 2 * len ∧ ∀ (i : Nat), i < 2 * len → g i = g i) ∧ True ∧ (29 = 29 ∧ 0 = 0 ∧ a = a ∧ b = b ∧ c = c ∧ d = d ∧ True) ∧ True ∧ (28 = 28 ∧ 0 = 0 ∧ dx = dx ∧ dy = dy ∧ True) ∧ True ∧ (24 = 24 ∧ 0 = 0 ∧ a = a ∧ b = b ∧ c = c ∧ d = d ∧ True) ∧ True ∧ (29 = 29 ∧ 0 = 0 ∧ (0 : Int) = (0 : Int) ∧ (0 : Int) = (0 : Int) ∧ (0 : Int)
= (0 : Int) ∧ (0 : Int) = (0 : Int) ∧ True) ∧ True) ∧ ∀ (_ : Nat), gsP a b c d len g dx dy → (True ∧ ((!decide (len < 2 ∨ false = true ∧ len < 3)) = true → (1 ≤ len ∧ 2 * len ≤ 2 * len ∧ len ≤
1000000) ∧ ∃ (_ : Nat), gsP a b c d len g dx dy ∧ ((True ∧ len = len) ∧ (True ∧ 0 = 0) ∧ (True ∧ 0 = 0) ∧ (True ∧ 0 = 0) ∧ (True ∧ 0 = 0) ∧ True) ∧ True ∧ (28 = 28 ∧ 2 = 2 ∧ 2 * len ≤ 2 * len ∧ ∀ (i : Nat), i < 2 * len → g i = g i) ∧ True ∧ (29 = 29 ∧ 0 = 0 ∧ a = a ∧ b = b ∧ c = c ∧ d = d ∧ True) ∧ True ∧ (28 =
28 ∧ 0 = 0 ∧ dx = dx ∧ dy = dy ∧ True) ∧ True ∧ (24 = 24 ∧ 0 = 0 ∧ a = a ∧ b = b ∧ c = c ∧ d = d ∧ True) ∧ True ∧ (29 = 29 ∧ 0 = 0 ∧ mn g 0 len = ar mn g len 0 ∧ mn g 1 len = ar mn g len 1 ∧ mx g 0 len = ar mx
 g len 0 ∧ mx g 1 len = ar mx g len 1 ∧ True) ∧ True) ∧ ((!decide (len < 2 ∨ false = true ∧ len < 3)) = false → ∃ (_ : Nat), gsP a b c d
 len g dx dy ∧ ((True ∧ len = len) ∧ (True ∧ 0 = 0) ∧ (True ∧ 0 = 0) ∧ (True ∧ 0 = 0) ∧ (True ∧ 0 = 0) ∧ True) ∧ True ∧ (28 = 28 ∧ 2 = 2 ∧ 2 * len
≤ 2 * len ∧ ∀ (i : Nat), i < 2 * len → g i = g i) ∧ True ∧ (29 = 29 ∧ 0 = 0 ∧ a = a ∧ b = b ∧ c = c ∧ d = d ∧ True) ∧ True ∧ (28 = 28 ∧ 0 = 0 ∧ dx = dx ∧ dy = dy ∧ True)
∧ True ∧ (24 = 24 ∧ 0 = 0 ∧ a = a ∧ b = b ∧ c = c ∧ d = d ∧ True) ∧ True ∧ (29 = 29 ∧ 0 = 0 ∧ (0 : Int) = ar mn g len 0 ∧ (0 : Int) =
 ar mn g len 1 ∧ (0 : Int) = ar mx g len 0 ∧ (0 : Int) = ar mx g len 1 ∧ True) ∧ True)) ∧ ∀ (_ : Nat),
 gsP a b c d len g dx dy → ((2 * len = 2 * len ∧ len ≤ 1000000) ∧ (2 * len = 2 * len ∧ len ≤ 1000000 ∧ (ppBig len false = true → ppOk
(fI g) len) ∧ Go.Sx.toIok .f64 (lnR (fun (g : Nat → Nat) => rlo g) g len 0) .i64 ∧ Go.Sx.toIok .f64 (lnR (fun (g : Nat → Nat) => rlo g) g len 1)
.i64 ∧ Go.Sx.toIok .f64 (lnR (fun (g : Nat → Nat) => rhi g) g len 0) .i64 ∧ Go.Sx.toIok .f64 (lnR (fun (g : Nat → Nat) => rhi g) g len 1) .i64) ∧ ∃ (_ : Nat),
 gsP a b c d len g dx dy ∧ ((True ∧ len = len) ∧ (True ∧ 0 = 0) ∧ (True ∧ 0 = 0) ∧ (True ∧ 0 = 0) ∧ decide (len < 2 ∨ false = true ∧ len < 3) = decide (len < 2)
∧ allValid len (fI g) = geoValid len g ∧ (True ∧ 0 = 0) ∧ True) ∧ True ∧ (28 = 28 ∧ 2 = 2 ∧ 2 * len ≤ 2 * len ∧ ∀ (i : Nat), i < 2 * len → g i = g i) ∧ True ∧ (29 = 29 ∧ 0 = 0 ∧ a = a ∧ b = b ∧ c = c ∧ d = d ∧ True) ∧ True ∧ (28 = 28 ∧ 0 = 0 ∧ dx = dx ∧ dy = dy ∧ True) ∧ True ∧ (24 = 24 ∧ 0 = 0 ∧ Go.Sx.toI .f64 (lnR (fun (g : Nat → Nat) => rlo g) g len 0) .i64 = ar mn g len 0 ∧ Go.Sx.toI .f64 (lnR (fun (g : Nat → Nat)
=> rlo g) g len 1) .i64 = ar mn g len 1 ∧ Go.Sx.toI .f64 (lnR (fun (g : Nat → Nat) => rhi g) g len 0) .i64 = ar
 mx g len 0 ∧ Go.Sx.toI .f64 (lnR (fun (g : Nat → Nat) => rhi g) g len 1) .i64 = ar mx g len 1 ∧ True) ∧ True ∧ (29 = 29
∧ 0 = 0 ∧ ar mn g len 0 = ar mn g len 0 ∧ ar mn g len 1 = ar mn g
 len 1 ∧ ar mx g len 0 = ar mx g len 0 ∧ ar mx g len 1 = ar mx g len 1 ∧ True) ∧ True) ∧ ∀ (_ : Nat), gsP a b c d len g dx dy → (((!(ar mn g len 0 == ar mn g len 0 && (ar mn
 g len 1 == ar mn g len 1 && (ar mx g len 0 == ar mx g len 0 && (ar mx g
 len 1 == ar mx g len 1 && true))))) = true → (!(ar mn g len 0 == ar mn g len 0 && (ar
 mn g len 1 == ar mn g len 1 && (ar mx g len 0 == ar mx g len 0 && (ar
 mx g len 1 == ar mx g len 1 && true))))) = true ∧ true = true ∧ False ∧ True) ∧ ((!(ar mn g len 0 == ar
 mn g len 0 && (ar mn g len 1 == ar mn g len 1 && (ar mx g len 0 == ar
 mx g len 0 && (ar mx g len 1 == ar mx g len 1 && true))))) = false → ((!decide (len < 2) == decide (len < 2 ∨ false =
 true ∧ len < 3)) = true → (!(ar mn g len 0 == ar mn g len 0 && (ar mn g len 1 == ar
 mn g len 1 && (ar mx g len 0 == ar mx g len 0 && (ar mx g len 1 == ar
 mx g len 1 && true))))) = false ∧ True ∧ (!decide (len < 2) == decide (len < 2 ∨ false = true ∧ len < 3)) = true ∧ true = true ∧ False ∧ True) ∧ ((!decide (len < 2) == decide (len < 2
∨ false = true ∧ len < 3)) = false → (!(ar mn g len 0 == ar mn g len 0 && (ar mn g len 1 ==
 ar mn g len 1 && (ar mx g len 0 == ar mx g len 0 && (ar mx g len 1 ==
 ar mx g len 1 && true))))) = false ∧ True ∧ (!decide (len < 2) == decide (len < 2 ∨ false = true ∧ len < 3)) = false ∧ (2 * len = 2 * len ∧ len ≤ 1000000) ∧
 true = true ∧ ((!geoValid len g == geoValid len g) = true → False ∧ True) ∧ ((!geoValid len g == geoValid len g) = false → ∃ (_ : Nat), gsP a b c d len g dx dy
∧ ((True ∧ len = len) ∧ (True ∧ 0 = 0) ∧ (True ∧ 0 = 0) ∧ True) ∧ True ∧ (28 = 28 ∧ 2 = 2 ∧ 2 * len ≤ 2 * len ∧ ∀ (i : Nat), i < 2 * len → g i = g i) ∧ True ∧
(29 = 29 ∧ 0 = 0 ∧ a = a ∧ b = b ∧ c = c ∧ d = d ∧ True) ∧ True ∧ (28 = 28 ∧ 0 = 0 ∧ dx = dx ∧ dy = dy ∧ True) ∧ True)))) ∧ ∀ (_ : Nat), gsP a b c d len g dx dy → (((0
: Int) ≤ (0 : Int) ∧ (0 : Int) < (2 : Int)) ∧ True) ∧ True ∧ (2 = 2 ∧ 1 = 1 ∧ (∀ (j : Nat), j < 2 → small (pq2 a b j)) ∧ small dx ∧ small
 dy) ∧ True ∧ (4 = 4 ∧ 2 = 2 ∧ (∀ (j : Nat), j < 4 → small (pq4 a b c d j)) ∧ small dx ∧ small dy) ∧ (2 * len = 2 * len ∧
 len ≤ 1000000) ∧ (2 * len = 2 * len ∧ len ≤ 40 ∧ (∀ (j : Nat), j < 2 * len → small (g j)) ∧ small dx ∧ small dy) ∧ true = true ∧ True ∧ True)) := by kernel_rfl
theorem lawShape : ConOk Tryz.prog 3 (conR lawShapeC) := by
  refine con_of_vc gG3 Tryz.func3 rfl (by kernel_rfl) fun args => ?_
  unfold lawShapeC
  split
  · rename_i a b c d n len dx dy
    intro o0
    show RdM.All _ (match intsFrom .i64 o0.c with | some (m, g) => _ | none => _) _
    split
    · rename_i m0 g hm0
      intro ho
      replace ho : m0 = 2 * len ∧ True := ho
      obtain ⟨hsz0, ho⟩ := ho
      subst hsz0
      refine ⟨?_, _, _, (vc_lawShape a b c d len dx dy g).mpr ?_⟩
      · refine okFlag_mk rfl ⟨?_, ⟨trivial, (contR_ints hm0).1, trivial⟩⟩
        simp [eqvRL, eqvR, kEq_self, sgSig, fsts, nth, sameN_self]
      · have hh : ∀ u : Bool, (!(u == u)) = false := by intro u; simp
        refine ⟨fun _ => by simp, fun hl => ⟨⟨⟨rfl, ?_⟩, rfl, 0, by simp⟩, fun _ _ => ⟨⟨0, by simp⟩, fun _ _ => ⟨?c5, fun _ h7 => ⟨?c7, fun _ h8 => ⟨?c8, fun _ h10 => ⟨?c10, fun _ h11 => ⟨?c11, fun _ h13 => ⟨?c13, fun _ h14 => ⟨?c14, fun _ h16 => ⟨?c16, fun _ h17 => ⟨?c17, fun _ h19 => ?c19⟩⟩⟩⟩⟩⟩⟩⟩⟩⟩⟩⟩
        · have := of_decide_eq_false hl
          omega
        case c5 =>
          refine ⟨⟨rfl, trivial⟩, fun _ => by simp, fun h1 => ?_⟩
          simp only [Bool.not_eq_false', Bool.and_eq_true, decide_eq_true_eq] at h1
          obtain ⟨h40, h1⟩ := h1
          refine ⟨by simp, by simp, by simp, fun _ => by simp, fun h2 => ⟨fun _ => by simp, fun h3 => ⟨0, ?_, by simp⟩⟩⟩
          have h1 := of_decide_eq_true h1
          have h2 : geoAll 6 (fun i => [a, b, c, d, dx, dy].getD i 0) = true := by simpa using h2
          have h2 := of_decide_eq_true h2
          have h3 : a ≤ c ∧ b ≤ d := by simpa using h3
          exact ⟨h40, h1, ⟨h2 0 (by decide), h2 1 (by decide), h2 2 (by decide), h2 3 (by decide)⟩, h2 4 (by decide), h2 5 (by decide), h3⟩
        case c7 =>
          obtain ⟨hl40, hg, ⟨ha, hb, hc, hd⟩, hx, hy, hac, hbd⟩ := h7
          have e0 : fcr (pq2 a b) 1 0 0 = ofI .f64 a := by simp [fcr, crn, pq2]
          have e1 : fcr (pq2 a b) 1 0 1 = ofI .f64 b := by simp [fcr, crn, pq2]
          rw [e0, e1]
          simp [toI_of ha, toI_of hb, pvalid_of ha hb]
          exact ⟨hl40, hg, ⟨ha, hb, hc, hd⟩, hx, hy, hac, hbd⟩
        case c8 =>
          have e : geoValid 1 (fun i => [a, b].getD i 0) = vld a b := by
            unfold geoValid vld
            refine decide_eq_decide.2 ⟨fun h => h 0 (by decide), fun h i hi => ?_⟩
            have : i = 0 := by omega
            subst this; exact h
          rw [e]
          simp [h8]
        case c10 =>
          obtain ⟨hl40, hg, ⟨ha, hb, hc, hd⟩, hx, hy, hac, hbd⟩ := h10
          have e0 : fcr (pq4 a b c d) 2 0 0 = ofI .f64 a := by simp [fcr, crn, pq4]
          have e1 : fcr (pq4 a b c d) 2 0 1 = ofI .f64 b := by simp [fcr, crn, pq4]
          have e2 : fcr (pq4 a b c d) 2 1 0 = ofI .f64 c := by simp [fcr, crn, pq4]
          have e3 : fcr (pq4 a b c d) 2 1 1 = ofI .f64 d := by simp [fcr, crn, pq4]
          rw [e0, e1, e2, e3]
          simp [toI_of ha, toI_of hb, toI_of hc, toI_of hd, pvalid_of ha hb, pvalid_of hc hd]
          exact ⟨hl40, hg, ⟨ha, hb, hc, hd⟩, hx, hy, hac, hbd⟩
        case c11 =>
          have e4 : geoValid 2 (fun i => [a, b, c, d].getD i 0) = (vld a b && vld c d) := by
            unfold geoValid vld
            rw [← Bool.decide_and]
            refine decide_eq_decide.2 ⟨fun h => ⟨h 0 (by decide), h 1 (by decide)⟩, fun h i hi => ?_⟩
            have : i = 0 ∨ i = 1 := by omega
            rcases this with rfl | rfl
            · exact h.1
            · exact h.2
          rw [e4]
          simp [h11]
        case c13 => exact ⟨0, h13, by simp⟩
        case c14 =>
          refine ⟨trivial, fun h => ?_, fun h => ?_⟩
          · have h2 : 2 ≤ len := by simp at h; omega
            refine ⟨⟨by omega, Nat.le_refl _, by have := h14.1; omega⟩, 0, h14, ?_⟩
            simp [ar, show ¬ len < 2 by omega]
          · have h2 : len < 2 := by simp at h; omega
            refine ⟨0, h14, ?_⟩
            simp [ar, h2]
        case c16 =>
          have hg := h16.2.1
          have hl := h16.1
          have hw := whl_fI hg
          have key : ∀ k, k < 2 → (toIok .f64 (lnR (fun g => rlo g) g len k) .i64 ∧ toI .f64 (lnR (fun g => rlo g) g len k) .i64 = ar mn g len k) ∧ (toIok .f64 (lnR (fun g => rhi g) g len k) .i64 ∧ toI .f64 (lnR (fun g => rhi g) g len k) .i64 = ar mx g len k) := by
            intro k hk
            unfold lnR ar pick
            by_cases h2 : len < 2
            · have : ppBig len false = false := decide_eq_false (by omega)
              rw [this]
              simp only [h2, if_true, Bool.false_eq_true, if_false]
              exact ⟨toI_FI zero_FI (by decide), toI_FI zero_FI (by decide)⟩
            · have : ppBig len false = true := decide_eq_true (by simp; omega)
              rw [this, if_neg h2, if_neg h2, if_pos rfl, if_pos rfl]
              have h3 := lo_F hw hk len (Nat.le_refl _)
              have h4 := hi_F hw hk len (Nat.le_refl _)
              rw [← lo_mn (by omega), ← hi_mx (by omega)]
              exact ⟨toI_FI h3.1 (by omega), toI_FI h4.1 (by omega)⟩
          have k0 := key 0 (by decide)
          have k1 := key 1 (by decide)
          rw [k0.1.2, k0.2.2, k1.1.2, k1.2.2, allv_of hg]
          simp [k0, k1, h16]
          first
            | exact ⟨by omega, fun h => ppOk_F (by omega) hw (pp_two h)⟩
            | exact fun h => ppOk_F (by omega) hw (pp_two h)
            | skip
        case c17 =>
          simp [h17]
          have := h17.1
          omega
        case c19 =>
          obtain ⟨hl40, hg, ⟨ha, hb, hc, hd⟩, hx, hy, hac, hbd⟩ := h19
          simp [hl40, hx, hy]
          refine ⟨?_, ?_, ?_, hg⟩
          · intro j hj
            have : j = 0 ∨ j = 1 := by omega
            rcases this with rfl | rfl
            · exact ha
            · exact hb
          · intro j hj
            have : j = 0 ∨ j = 1 ∨ j = 2 ∨ j = 3 := by omega
            rcases this with rfl | rfl | rfl | rfl
            · exact ha
            · exact hb
            · exact hc
            · exact hd
          · omega
    · trivial
  · trivial
end Go.Proofs.Tryz.Sx

/- From a contract to a row: what a law's row asks, where the law makes only memory of its own and answers true. -/
namespace Go.Sx
open Go.RowKit Go.ChangeShapes Go.WideShapes Go.ChangeAt

section
variable {H : Type} {enc : TypeId × Value → H} {P : Program}

theorem trodAll_below (hl : laidOutB P = true) {W W' : World} (hb : Below W.heap.size W W') : ∀ {ts : List TypeId} {vs : List Value} {ds : List (DataW H)} {ps : List MemPlace},
    (ts.all fun t => P.readableRec t && decide (t < P.types.size)) = true → DataW.TrodAll enc P W 0 (fun _ => true) true ts vs ds ps → (∀ x ∈ ps, x.block < W.heap.size) →
    DataW.TrodAll enc P W' 0 (fun b => decide (b < W.heap.size)) true ts vs ds ps
  | [], vs, ds, ps, _, h, _ => by
    cases vs <;> cases ds <;> simp_all [DataW.TrodAll]
  | t :: ts, vs, ds, ps, ht, h, hlt => by
    obtain ⟨v, vs', d, ds', p, q, rfl, rfl, rfl, h1, h2⟩ := trodAll_cons h
    simp only [List.all_cons, Bool.and_eq_true, decide_eq_true_eq] at ht
    exact ⟨p, q, Below.trod hl ht.1.1 ht.1.2 h1 hb (fun x hx => hlt x (by simp [hx])), trodAll_below hl hb ht.2 h2 (fun x hx => hlt x (by simp [hx])), rfl⟩

/-- The row's last step: the law has returned true and left all old memory alone. -/
theorem post_true (hl : laidOutB P = true) {f : Func} {s : ChangeSpec} {apart : Bool} {W W' : World} {args : Array Value} {ds : List (DataW H)} {before : List MemPlace}
    (hW : DataW.Whole enc P f.params.toList s.vars apart W args.toList ds [] before) (hb : Below W.heap.size W W') {bt : TypeId} (hbt : P.underlying bt = some .bool) (hr : f.resultTypes = #[bt])
    (hvars : s.vars = []) (hres : (s.fn H (ds ++ [])).results = [.lit (.bool true)]) (hargs : (s.fn H (ds ++ [])).args = ds) (hvs : (s.fn H (ds ++ [])).vars = [])
    (hp : (f.params.toList.all fun t => P.readableRec t && decide (t < P.types.size)) = true) :
    s.post enc P f apart true false false W args (.bool true) W' := by
  have hW' := hW
  obtain ⟨p, q, hA, hV, hpq, _, _⟩ := hW
  rw [hvars] at hV
  obtain ⟨_, rfl⟩ := trodVars_none hV
  rw [List.append_nil] at hpq
  subst hpq
  refine ⟨ds, [], before, [], before, [], hW', ?_, ?_, ?_, hb.frame _, fun h => by cases h⟩
  · rw [hres, hr]
    exact trodAll_mk1 (shut_bool hbt true)
  · rw [hargs]
    exact trodAll_below hl hb hp hA (fun x hx => by simpa using hW'.lt x hx)
  · rw [hvars, hvs]; rfl

end
end Go.Sx

/- Arguments that are whole numbers in a row, opened. -/
namespace Go.Sx
open Go.RowKit Go.ChangeShapes Go.WideShapes Go.ChangeAt

section
variable {P : Program} {W : World} {r : Reach} {b0 : Nat}

theorem int_cell {u : TypeId} {v : Value} (hu : P.underlying u = some (.int .i64)) (h : Cell.okWide P W r b0 u v) : ∃ n : Int, v = .int .i64 n := by
  unfold Cell.okWide at h
  rw [hu] at h
  simp only at h
  unfold Cell.ok at h
  rw [hu] at h
  cases v <;> simp only at h
  exact ⟨_, by rw [h.1]⟩

/-- The value of a struct or an array all of whose cells are of the kind int64. -/
theorem open_ints {t : TypeId} {v : Value} {ts : List TypeId} {n : Nat} (ha : (∃ fs, P.underlying t = some (.struct fs)) ∨ (∃ m e, P.underlying t = some (.array m e))) (hc : P.cellTypes P.depth t = some ts)
    (hts : ∀ u ∈ ts, P.underlying u = some (.int .i64)) (hn : P.cellsOf t = n) (hv : Value.okWide P W r b0 t v) : ∃ l : List Int, l.length = n ∧ v = .agg (l.map (Value.int .i64)).toArray := by
  have key : ∃ cs, v = .agg cs ∧ cs.size = P.cellsOf t ∧ Row.okWide P W r b0 t cs := by
    unfold Value.okWide at hv
    rcases ha with ⟨fs, h⟩ | ⟨m, e, h⟩ <;> (rw [h] at hv; exact hv)
  obtain ⟨cs, rfl, hsz, ts', hts', _, hcell⟩ := key
  rw [hc] at hts'
  simp only [Option.some.injEq] at hts'
  subst hts'
  have hall : ∀ v ∈ cs.toList, ∃ n : Int, v = .int .i64 n := by
    intro v hv
    obtain ⟨i, hi, rfl⟩ := List.getElem_of_mem hv
    obtain ⟨u, hu, hok⟩ := hcell i _ (by rw [Array.getElem?_eq_getElem (by simpa using hi)])
    exact int_cell (hts u (List.mem_of_getElem? hu)) hok
  have : ∃ l : List Int, cs.toList = l.map (Value.int .i64) := by
    clear hcell hsz hv
    generalize cs.toList = L at hall
    induction L with
    | nil => exact ⟨[], rfl⟩
    | cons x r ih =>
      obtain ⟨n, rfl⟩ := hall x (by simp)
      obtain ⟨l, hl⟩ := ih (fun v hv => hall v (by simp [hv]))
      exact ⟨n :: l, by simp [hl]⟩
  obtain ⟨l, hl⟩ := this
  refine ⟨l, ?_, ?_⟩
  · have := congrArg List.length hl
    simp at this
    omega
  · rw [← hl]

theorem list4 {α : Type} {l : List α} (h : l.length = 4) : ∃ a b c d, l = [a, b, c, d] := by
  match l, h with
  | [a, b, c, d], _ => exact ⟨a, b, c, d, rfl⟩
end
end Go.Sx

/- Arguments that are slices of points, opened; a law's contract with such arguments becomes its call. -/
namespace Go.Sx
open Go.RowKit Go.ChangeShapes Go.WideShapes Go.ChangeAt

section
variable {H : Type} {enc : TypeId × Value → H} {P : Program} {W : World} {r : Reach} {b0 : Nat}

/-- A row of whole numbers behind a slice's address. -/
def IntsAt (W : World) (a : Option Addr) (cap n : Nat) (g : Nat → Int) : Prop := match a with
  | none => n = 0 ∧ cap = 0
  | some a => a.spot = none ∧ ∀ j, j < n → W.cell? ⟨a.block, a.off + j, none⟩ = some (.int .i64 (g j))

theorem addr_add (a : Addr) (n : Nat) (h : a.spot = none) : a.add n = ⟨a.block, a.off + n, none⟩ := by
  obtain ⟨b, o, s⟩ := a
  simp only at h
  subst h
  exact Addr.add_lit ..

theorem open_pts {t e : TypeId} {f0 f1 : Field} (ht : P.underlying t = some (.slice e)) (he : P.underlying e = some (.struct #[f0, f1])) (ce : P.cellsOf e = 2) (o0 : f0.offset = 0) (o1 : f1.offset = 1)
    (c0 : P.cellsOf f0.type = 1) (c1 : P.cellsOf f1.type = 1) (u0 : P.underlying f0.type = some (.int .i64)) (u1 : P.underlying f1.type = some (.int .i64)) {v : Value} {d : DataW H} {ps : List MemPlace}
    (hv : Value.okWide P W r b0 t v) (hd : DataW.Trod enc P W 0 (fun _ => true) true t v d ps) : ∃ a len cap g, v = .slice a len cap ∧ cap ≤ maxLen ∧ IntsAt W a cap (2 * len) g := by
  obtain ⟨fuel, hf⟩ := hd
  have hok : Cell.okWide P W r b0 t v := by
    unfold Value.okWide at hv
    rw [ht] at hv
    exact hv
  have hvs : v.cells.toList = [v] ∨ ∃ cs, v = .agg cs := by
    cases v <;> first | exact .inr ⟨_, rfl⟩ | exact .inl rfl
  have hvc : v.cells.toList = [v] := by
    rcases hvs with h | ⟨cs, rfl⟩
    · exact h
    · unfold Cell.okWide Cell.ok at hok
      rw [ht] at hok
      exact hok.elim
  rw [hvc] at hf
  rcases Go.Deep.open_slice ht hf with ⟨hcs, _⟩ | ⟨a, len, cap, m, n, D, Pl, hcs, _, hl, hm, hmm, _, hx⟩
  · simp only [List.cons.injEq, and_true] at hcs
    subst hcs
    exact ⟨none, 0, 0, fun _ => 0, rfl, by decide, rfl, rfl⟩
  · simp only [List.cons.injEq, and_true] at hcs
    subst hcs
    have hspot : a.spot = none := by
      unfold Cell.okWide Cell.ok at hok
      rw [ht] at hok
      exact hok.2.2.2.1
    have hcells : ∀ i, i < len → ∃ x y : Int, W.cell? ⟨a.block, a.off + 2 * i, none⟩ = some (.int .i64 x) ∧ W.cell? ⟨a.block, a.off + (2 * i + 1), none⟩ = some (.int .i64 y) := by
      intro i hi
      have hlm : len ≤ m := by rw [hmm]; simpa using hl
      obtain ⟨cs', h1, h2⟩ := hx i (by omega)
      rw [ce] at h1
      obtain ⟨_, hlen, hcell⟩ := World.cells?_some h1
      obtain ⟨xs, k, _, _, _, hxl, hfs⟩ := DataW.trod_struct he h2
      match xs, hxl, cs', hlen with
      | [y0, y1], _, [v0, v1], _ =>
        have g0 := hfs 0 f0 rfl
        have g1 := hfs 1 f1 rfl
        simp [o0, o1, c0, c1] at g0 g1
        have e0 := hcell 0 (by omega)
        have e1 := hcell 1 (by omega)
        obtain ⟨x, hx', _⟩ := DataW.trod_int u0 g0
        obtain ⟨y, hy', _⟩ := DataW.trod_int u1 g1
        simp only [List.cons.injEq, and_true] at hx' hy'
        subst hx' hy'
        refine ⟨x, y, ?_, ?_⟩
        · rw [← show (a.add (i * 2)).add 0 = (⟨a.block, a.off + 2 * i, none⟩ : Addr) by rw [addr_add a _ hspot]; show Addr.mk _ _ _ = _; congr 1; simp; omega]
          simpa using e0
        · rw [← show (a.add (i * 2)).add 1 = (⟨a.block, a.off + (2 * i + 1), none⟩ : Addr) by rw [addr_add a _ hspot]; show Addr.mk _ _ _ = _; congr 1; simp; omega]
          simpa using e1
    obtain ⟨q, hq⟩ : ∃ q : Nat → Int × Int, ∀ i, i < len → W.cell? ⟨a.block, a.off + 2 * i, none⟩ = some (.int .i64 (q i).1) ∧ W.cell? ⟨a.block, a.off + (2 * i + 1), none⟩ = some (.int .i64 (q i).2) := by
      refine ⟨fun i => if h : i < len then ((hcells i h).choose, (hcells i h).choose_spec.choose) else (0, 0), fun i hi => ?_⟩
      simp only [hi, dif_pos]
      exact (hcells i hi).choose_spec.choose_spec
    refine ⟨some a, len, cap, fun j => if j % 2 = 0 then (q (j / 2)).1 else (q (j / 2)).2, rfl, hm, hspot, fun j hj => ?_⟩
    have h2 := hq (j / 2) (by omega)
    by_cases hp : j % 2 = 0
    · have e : j = 2 * (j / 2) := by omega
      simp only [hp, if_pos]
      rw [← h2.1]
      congr 2
      omega
    · simp only [hp, if_false]
      rw [← h2.2]
      congr 2
      omega
end

section
variable {P : Program} {W : World}

theorem hsat_ro {k : Nat} {H : Heap} {ρ : Rho} (hk : ∀ n o, look H n = some o → n < k ∧ o.rw = false ∧ o.c.bd (· < k) ∧ OSat W ρ o (ρ n)) : HSat W (· < W.heap.size) (· < k) H ρ W where
  os := rfl
  tape := rfl
  output := rfl
  size := Nat.le_refl _
  frlt := fun _ h => h
  frame := fun _ _ => rfl
  used := fun n o h => (hk n o h).1
  bd := fun n o h => (hk n o h).2.2.1
  obj := fun n o h => (hk n o h).2.2.2
  inj := fun n _ o _ _ _ h _ _ hr => by rw [(hk n o h).2.1] at hr; cases hr
  free := fun n o _ h hr => by rw [(hk n o h).2.1] at hr; cases hr

theorem HSat.toBelow {U : Nm → Prop} {H : Heap} {ρ : Rho} {W' : World} (h : HSat W (· < W.heap.size) U H ρ W') : Below W.heap.size W W' :=
  ⟨h.os, h.tape, h.output, h.size, fun k hk => h.frame k hk⟩

/-- A law by its contract: it returns true, and old memory is as it was. -/
theorem calls_of_con {f k : Nat} {C : Con} {fn : Func} (h : ConOk P f C) (hf : P.funcs[f]? = some fn) (hb : fn.body.isNone = false) (hnm : (fn.name == "runtime.NumGoroutine") = false)
    {args : List SV} {H : Heap} {ρ : Rho} {e : Eff} (hk : ∀ n o, look H n = some o → n < k ∧ o.rw = false ∧ o.c.bd (· < k) ∧ OSat W ρ o (ρ n)) (ha : bdL (· < k) args)
    (hc : C args (look H) k = some e) (ho : okP e.obl) (hv : e.val = some .tt) :
    Calls P f (denL ρ args).toArray W fun en w' => en = .returned (.bool true) ∧ Below W.heap.size W w' := by
  have := h.calls (hsat_ro hk) ha (fun j _ (h : k + j < k) => absurd h (by omega)) hc ho
  rcases this with ⟨_, h1⟩ | ⟨v', w', h1, _⟩
  · refine h1.mono ?_
    rintro en w' ⟨ρ', _, h2, v, h3, _, rfl⟩
    rw [hv] at h3
    simp only [Option.some.injEq] at h3
    subst h3
    exact ⟨rfl, h2.toBelow⟩
  · simp only [callFunc, Sem.run_bind, run_program, Result.andThen_ok, hf, hnm, hb, Bool.false_eq_true, if_false, Sem.run_pure] at h1
    cases h1
end

/-- The place of an argument's row. -/
def rhoOf (a : Option Addr) (cap : Nat) : Option (Nat × Nat × Nat) := a.map fun a => (a.block, a.off, cap)
theorem osat_ints {W : World} {ρ : Rho} {a : Option Addr} {cap n e : Nat} {g : Nat → Int} (h : IntsAt W a cap n g) : OSat W ρ ⟨false, e, .ints .i64 n g, 0⟩ (rhoOf a cap) := by
  cases a with
  | none => exact h.1
  | some a => exact ⟨fun i hi => h.2 i hi, fun h => by cases h⟩
theorem den_slcc {ρ : Rho} {n : Nm} {a : Option Addr} {cap len m : Nat} {W : World} {g : Nat → Int} (hρ : ρ n = rhoOf a cap) (h : IntsAt W a cap m g) : (SV.slcc n len).den ρ = .slice a len cap := by
  show Value.slice (ρ.addr n 0) len (ρ.cap n) = _
  unfold Rho.addr Rho.cap
  rw [hρ]
  cases a with
  | none => simp [rhoOf, h.2]
  | some a =>
    obtain ⟨b, o, s⟩ := a
    have := h.1
    simp only at this
    subst this
    rfl
end Go.Sx
