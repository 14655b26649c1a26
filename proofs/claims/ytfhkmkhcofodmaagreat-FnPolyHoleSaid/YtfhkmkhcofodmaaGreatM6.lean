/- Parts of a proof, in order: what each says stands at its head. No conditions. -/
import Derived.Test.YtfhkmkhcofodmaaGreatM5
namespace Go.Proofs.Tryz.Sx
open Go Go.Sx Go.Proofs Go.Fl Go.Geo
set_option maxRecDepth 100000
def mtF (g : Nat → Nat) (n qa qb qc qd : Nat) (i : Nat) : Bool :=
 !(fGt .f64 (fmin (g (2 * i + 1)) (g (2 * nx n i + 1))) qd) && !(fLt .f64 (fmax (g (2 * i + 1)) (g (2 * nx n i + 1))) qb) && !(fGt .f64 (fmin (g (2 * i)) (g (2 * nx n i))) qc) && !(fLt .f64 (fmax (g (2 * i)) (g (2 * nx n i))) qa)
theorem nsg_le (cl : Bool) (n : Nat) (z : Nat → Int) : nsg cl n z ≤ n := by
 unfold nsg
 split
 · split
   · omega
   · split <;> omega
 · omega
def cpR (meet on lf : Nat → Bool) (al b : Bool) (ix : Int) : Nat → Bool × Bool × Int
 | 0 => (false, b, ix)
 | i + 1 => if (cpR meet on lf al b ix i).1 = true ∨ meet i = false then cpR meet on lf al b ix i else if on i = true then (true, al, i) else (false, xor (cpR meet on lf al b ix i).2.1 (lf i), (cpR meet on lf al b ix i).2.2)
theorem cpR_stop {meet on lf : Nat → Bool} {al b : Bool} {ix : Int} {i : Nat} (h : (cpR meet on lf al b ix i).1 = true) : ∀ m, i ≤ m → cpR meet on lf al b ix m = cpR meet on lf al b ix i
 | 0, hm => by
   have : i = 0 := by omega
   subst this; rfl
 | m + 1, hm => by
   by_cases e : i = m + 1
   · subst e; rfl
   · have ih := cpR_stop h m (by omega)
     show (if (cpR meet on lf al b ix m).1 = true ∨ meet m = false then cpR meet on lf al b ix m else _) = _
     rw [ih, if_pos (.inl h)]
def anyB (p : Nat → Bool) : Nat → Bool
 | 0 => false
 | i + 1 => anyB p i || p i
theorem anyB_of {p : Nat → Bool} : ∀ {i m : Nat}, i < m → p i = true → anyB p m = true
 | i, 0, h, _ => by omega
 | i, m + 1, h, hp => by
   show (anyB p m || p m) = true
   by_cases e : i = m
   · subst e; rw [hp]; simp
   · rw [anyB_of (by omega) hp]; rfl
def isR (meet isc col aeq beq : Nat → Bool) (al : Bool) (ao bo : Bool) : Nat → Bool × Bool × Bool × Int
 | 0 => (true, ao, bo, 0)
 | i + 1 => if (isR meet isc col aeq beq al ao bo i).1 = false ∨ meet i = false then isR meet isc col aeq beq al ao bo i
   else stp al (isc i) (col i) (aeq i) (beq i) (isR meet isc col aeq beq al ao bo i).2.1 (isR meet isc col aeq beq al ao bo i).2.2.1 (isR meet isc col aeq beq al ao bo i).2.2.2
theorem isR_stop {meet isc col aeq beq : Nat → Bool} {al ao bo : Bool} {i : Nat} (h : (isR meet isc col aeq beq al ao bo i).1 = false) : ∀ m, i ≤ m → isR meet isc col aeq beq al ao bo m = isR meet isc col aeq beq al ao bo i
 | 0, hm => by
   have : i = 0 := by omega
   subst this; rfl
 | m + 1, hm => by
   by_cases e : i = m + 1
   · subst e; rfl
   · have ih := isR_stop h m (by omega)
     show (if (isR meet isc col aeq beq al ao bo m).1 = false ∨ meet m = false then isR meet isc col aeq beq al ao bo m else _) = _
     rw [ih, if_pos (.inl h)]
theorem isR_ct {meet isc col aeq beq : Nat → Bool} {al ao bo : Bool} : ∀ i, 0 ≤ (isR meet isc col aeq beq al ao bo i).2.2.2 ∧ (isR meet isc col aeq beq al ao bo i).2.2.2 ≤ i
 | 0 => ⟨Int.le_refl _, Int.le_refl _⟩
 | i + 1 => by
   have ih := isR_ct (meet := meet) (isc := isc) (col := col) (aeq := aeq) (beq := beq) (al := al) (ao := ao) (bo := bo) i
   show 0 ≤ (if _ then _ else _ : Bool × Bool × Bool × Int).2.2.2 ∧ (if _ then _ else _ : Bool × Bool × Bool × Int).2.2.2 ≤ _
   split
   · omega
   · unfold stp
     repeat' split
     all_goals simp only
     all_goals omega
section
variable (g : Nat → Nat) (n : Nat)
noncomputable def onS (px py : Nat) (i : Nat) : Bool := onW (g (2 * i)) (g (2 * i + 1)) (g (2 * nx n i)) (g (2 * nx n i + 1)) px py
noncomputable def lfS (px py : Nat) (i : Nat) : Bool := lfW (g (2 * i)) (g (2 * i + 1)) (g (2 * nx n i)) (g (2 * nx n i + 1)) px py
noncomputable def cpV (qa qb qc qd px py : Nat) (al b : Bool) (ix : Int) : Nat → Bool × Bool × Int := cpR (mtF g n qa qb qc qd) (onS g n px py) (lfS g n px py) al b ix
noncomputable def isV (qa qb qc qd ax ay bx by' : Nat) (al ao bo : Bool) : Nat → Bool × Bool × Bool × Int :=
 isR (mtF g n qa qb qc qd) (fun i => isW ax ay bx by' (g (2 * i)) (g (2 * i + 1)) (g (2 * nx n i)) (g (2 * nx n i + 1))) (fun i => clW ax ay bx by' (g (2 * i)) (g (2 * i + 1)) (g (2 * nx n i)) (g (2 * nx n i + 1)))
   (fun i => eqW ax ay (g (2 * i)) (g (2 * i + 1)) (g (2 * nx n i)) (g (2 * nx n i + 1))) (fun i => eqW bx by' (g (2 * i)) (g (2 * i + 1)) (g (2 * nx n i)) (g (2 * nx n i + 1))) al ao bo
noncomputable def ixV1 (qa qb qc qd ax ay bx by' : Nat) : Nat → Bool := anyB fun i => mtF g n qa qb qc qd i && bad1 ax ay bx by' (g (2 * i)) (g (2 * i + 1)) (g (2 * nx n i)) (g (2 * nx n i + 1))
noncomputable def ixV2 (qa qb qc qd ax ay bx by' : Nat) : Nat → Bool := anyB fun i => mtF g n qa qb qc qd i && bad2 ax ay bx by' (g (2 * i)) (g (2 * i + 1)) (g (2 * nx n i)) (g (2 * nx n i + 1))
noncomputable def ixV3 (qa qb qc qd ax ay bx by' : Nat) : Nat → Bool := anyB fun i => mtF g n qa qb qc qd i && bad3 ax ay bx by' (g (2 * i)) (g (2 * i + 1)) (g (2 * nx n i)) (g (2 * nx n i + 1))
noncomputable def ixV4 (qa qb qc qd ax ay bx by' : Nat) : Nat → Bool := anyB fun i => mtF g n qa qb qc qd i && bad4 ax ay bx by' (g (2 * i)) (g (2 * i + 1)) (g (2 * nx n i)) (g (2 * nx n i + 1))
noncomputable def ixV5 (qa qb qc qd ax ay bx by' : Nat) : Nat → Bool := anyB fun i => mtF g n qa qb qc qd i && bad5 ax ay bx by' (g (2 * i)) (g (2 * i + 1)) (g (2 * nx n i)) (g (2 * nx n i + 1))
end
def qC (qa qb qc qd : Nat) : List SV := [.flt .f64 qa, .flt .f64 qb, .flt .f64 qc, .flt .f64 qd]
noncomputable def GssrCP : Ctx := ⟨⟨tys, []⟩, [(111, conR sNumSC), (112, conR sSegC), (113, pureCon sRectF), (175, pureCon rMeetF), (183, conR cpBC)]⟩
theorem gssrCP : CtxOk Tryz.prog GssrCP := ⟨⟨tysOk, FlatsOk.nil⟩, GamOk.cons sNumS (GamOk.cons sSeg (GamOk.cons (.pure sRect) (GamOk.cons (.pure rMeet) (GamOk.cons cpB GamOk.nil)))), by kernel_rfl⟩
noncomputable def LsrCP (cl cw cv : Bool) (k : Int) (x y z w n : Nat) (g : Nat → Nat) (qa qb qc qd : Nat) (px py : Nat) (al b : Bool) (ix : Int) : Fam := ⟨Nat, fun i =>
 ⟨69, [(0, .ptr 0 0), (2, .fn (.func 183) [] [.ptr 2 0, .ptr 3 0, .ptr 4 0, .ptr 5 0]), (4, .ptr 6 0), (7, .int .i64 (nsg cl n (wz g))), (8, .int .i64 i)], [(0, ⟨false, 150, serC cl cw cv k x y z w 1 n, 0⟩), (1, ⟨false, 100, .flts .f64 (2 * n) g, 0⟩), (2, ⟨false, 100, bxPC px py, 0⟩), (3, ⟨false, 4, bxBC al, 0⟩), (4, ⟨true, 3, bxIC (cpV g n qa qb qc qd px py al b ix i).2.2, 0⟩), (5, ⟨true, 4, bxBC (cpV g n qa qb qc qd px py al b ix i).2.1, 0⟩), (6, ⟨true, 102, .cells (qC qa qb qc qd), 0⟩)], 7⟩, fun i => i ≤ nsg cl n (wz g) ∧ (cpV g n qa qb qc qd px py al b ix i).1 = false, fun i => nsg cl n (wz g) - i⟩
noncomputable def srCPC : List SV → RdM
 | [.ptr s 0, .agg [.flt .f64 qa, .flt .f64 qb, .flt .f64 qc, .flt .f64 qd], .fn (.func 183) [] [.ptr p1 0, .ptr a1 0, .ptr x1 0, .ptr y1 0]] => .read s fun o0 => (match serOf o0.c with
   | some (cl, cw, cv, k, x, y, z, w, p, n) => .read p fun o1 => (match fltsFrom .f64 o1.c with
   | some (m1, g) => .read p1 fun o2 => (match bxP o2.c with
   | some (px, py) => .read a1 fun o3 => (match bxB o3.c with
   | some al => .read x1 fun o4 => (match rwOk o4 3 0 with
   | true => (match bxI o4.c with
   | some ix => .read y1 fun o5 => (match rwOk o5 4 0 with
   | true => (match bxB o5.c with
   | some b => .ret ⟨[.ptr 0 0, .agg [.flt .f64 qa, .flt .f64 qb, .flt .f64 qc, .flt .f64 qd], .fn (.func 183) [] [.ptr 2 0, .ptr 3 0, .ptr 4 0, .ptr 5 0]], [(0, ⟨false, 150, serC cl cw cv k x y z w 1 n, 0⟩), (1, ⟨false, 100, .flts .f64 m1 g, 0⟩), (2, ⟨false, 100, bxPC px py, 0⟩), (3, ⟨false, 4, bxBC al, 0⟩), (4, ⟨true, 3, bxIC ix, 0⟩), (5, ⟨true, 4, bxBC b, 0⟩)], .tup [], [(4, ⟨true, 3, bxIC (cpV g n qa qb qc qd px py al b ix (nsg cl n (wz g))).2.2, 0⟩), (5, ⟨true, 4, bxBC (cpV g n qa qb qc qd px py al b ix (nsg cl n (wz g))).2.1, 0⟩)], [], some (m1 = 2 * n ∧ n ≤ 1000000 ∧ SmF g (2 * n) ∧ W1 px ∧ W1 py)⟩
   | none => .fail)
   | false => .fail)
   | none => .fail)
   | false => .fail)
   | none => .fail)
   | none => .fail)
   | none => .fail)
   | none => .fail)
 | _ => .fail
theorem vc_srCP (cl cw cv : Bool) (k : Int) (x y z w : Nat) (_ : Nm) (n : Nat) (qa qb qc qd : Nat) (px py : Nat) (al b : Bool) (ix : Int)  (g : Nat → Nat) : runA GssrCP 6 [(5, LsrCP cl cw cv k x y z w n g qa qb qc qd px py al b ix)] [] (codeOf Tryz.f172) (init Tryz.f172.ntmps [.ptr 0 0, .agg [.flt .f64 qa, .flt .f64 qb, .flt .f64 qc, .flt .f64 qd], .fn (.func 183) [] [.ptr 2 0, .ptr 3 0, .ptr 4 0, .ptr 5 0]] [(0, ⟨false, 150, serC cl cw cv k x y z w 1 n, 0⟩), (1, ⟨false, 100, .flts .f64 (2 * n) g, 0⟩), (2, ⟨false, 100, bxPC px py, 0⟩), (3, ⟨false, 4, bxBC al, 0⟩), (4, ⟨true, 3, bxIC ix, 0⟩), (5, ⟨true, 4, bxBC b, 0⟩)] 6) (endK GssrCP.E.T Tryz.f172.results.toList fun S v => postP 6 ⟨[.ptr 0 0, .agg [.flt .f64 qa, .flt .f64 qb, .flt .f64 qc, .flt .f64 qd], .fn (.func 183) [] [.ptr 2 0, .ptr 3 0, .ptr 4 0, .ptr 5 0]], [(0, ⟨false, 150, serC cl cw cv k x y z w 1 n, 0⟩), (1, ⟨false, 100, .flts .f64 (2 * n) g, 0⟩), (2, ⟨false, 100, bxPC px py, 0⟩), (3, ⟨false, 4, bxBC al, 0⟩), (4, ⟨true, 3, bxIC ix, 0⟩), (5, ⟨true, 4, bxBC b, 0⟩)], .tup [], [(4, ⟨true, 3, bxIC (cpV g n qa qb qc qd px py al b ix (nsg cl n (wz g))).2.2, 0⟩), (5, ⟨true, 4, bxBC (cpV g n qa qb qc qd px py al b ix (nsg cl n (wz g))).2.1, 0⟩)], [], some (2 * n = 2 * n ∧ n ≤ 1000000 ∧ SmF g (2 * n) ∧ W1 px ∧ W1 py)⟩ S v) = (
(2 * n = 2 * n ∧ n ≤ 1000000 ∧ SmF g (2 * n)) ∧ (∃ (i : Nat), (i ≤ nsg cl n (wz g) ∧ (cpV g n qa qb qc qd px py al b ix i).1 = false) ∧
((True ∧ 0 = 0) ∧ (Go.Fn.func 183 = Go.Fn.func 183 ∧ True ∧ (True ∧ 0 = 0) ∧ (True ∧ 0 = 0) ∧ (True ∧ 0 = 0) ∧ (True ∧ 0 = 0) ∧ True) ∧ (True ∧ 0
= 0) ∧ (↑(nsg cl n (wz g)) : Int) = (↑(nsg cl n (wz g)) : Int) ∧ 0 = (↑i : Int) ∧ True) ∧ True ∧ (cl = cl ∧ cw = cw ∧ cv = cv ∧ k = k ∧ True ∧ x = x ∧ y = y ∧ z =
 z ∧ w = w ∧ (True ∧ n = n) ∧ True) ∧ True ∧ (2 * n ≤ 2 * n ∧ ∀ (i : Nat), i < 2 * n → g i = g i) ∧ True ∧ (px = px ∧ py = py ∧ True) ∧ True ∧ (al = al ∧ True) ∧ True ∧ (3 = 3 ∧ 0 = 0 ∧ ix =
 ((cpV g n qa qb qc qd px py al b ix i).2).2 ∧ True) ∧ True ∧ (4 = 4 ∧ 0 = 0 ∧ b = ((cpV g n qa qb qc qd px py al b ix i).2).1 ∧ True) ∧ True ∧ (102 = 102 ∧ 0 = 0 ∧ qa = qa ∧ qb = qb ∧ qc = qc ∧ qd = qd ∧ True) ∧ True) ∧ ∀ (i : Nat), i ≤ nsg cl n (wz g) ∧ (cpV g n qa qb qc qd px py al b ix i).1 = false →
(decide ((↑i : Int) < (↑(nsg cl n (wz g)) : Int)) = true → (2 * n = 2 * n ∧ 0 ≤ (↑i : Int) ∧ (↑i : Int) < (↑n : Int) ∧ n ≤ 1000000) ∧ true = true ∧ ((!fGt .f64
(fmin (g (2 * Int.toNat (↑i : Int) + 1)) (g (2 * nx n (Int.toNat (↑i : Int)) + 1))) qd && !fLt .f64 (fmax (g (2 * Int.toNat (↑i : Int) + 1))
(g (2 * nx n (Int.toNat (↑i : Int)) + 1))) qb && !fGt .f64 (fmin (g (2 * Int.toNat (↑i : Int))) (g (2 * nx n (Int.toNat (↑i : Int))))) qc && !fLt .f64
(fmax (g (2 * Int.toNat (↑i : Int))) (g (2 * nx n (Int.toNat (↑i : Int))))) qa) = true → PW (g (2 * Int.toNat (↑i : Int))) (g (2 * Int.toNat (↑i : Int) + 1)) (g (2 * nx n (Int.toNat (↑i : Int)))) (g (2 * nx n (Int.toNat (↑i : Int)) + 1)) px py ∧ ((!!onW (g (2 * Int.toNat (↑i : Int))) (g (2 * Int.toNat (↑i
: Int) + 1)) (g (2 * nx n (Int.toNat (↑i : Int)))) (g (2 * nx n (Int.toNat (↑i : Int)) + 1)) px py) = true → True ∧ True ∧ (3 = 3 ∧ 0 = 0 ∧ (if
 onW (g (2 * Int.toNat (↑i : Int))) (g (2 * Int.toNat (↑i : Int) + 1)) (g (2 * nx n (Int.toNat (↑i : Int)))) (g (2 * nx n (Int.toNat (↑i : Int)) + 1)) px py = true then (↑i : Int) else ((cpV g n qa qb qc qd px py al b ix i).2).2) = ((cpV g n qa qb qc qd px py al b ix (nsg cl n (wz g))).2).2 ∧
 True) ∧ True ∧ (4 = 4 ∧ 0 = 0 ∧ (if onW (g (2 * Int.toNat (↑i : Int))) (g (2 * Int.toNat (↑i : Int) + 1)) (g (2 * nx n (Int.toNat (↑i : Int)))) (g (2 * nx n (Int.toNat (↑i : Int)) + 1)) px py = true then al else ((cpV g n qa qb qc qd px py al b ix i).2).1 ^^ lfW (g (2 * Int.toNat (↑i : Int))) (g (2 *
 Int.toNat (↑i : Int) + 1)) (g (2 * nx n (Int.toNat (↑i : Int)))) (g (2 * nx n (Int.toNat (↑i : Int)) + 1)) px py) = ((cpV g n qa qb qc qd px py al
 b ix (nsg cl n (wz g))).2).1 ∧ True) ∧ True) ∧ ((!!onW (g (2 * Int.toNat (↑i : Int))) (g (2 * Int.toNat (↑i : Int) + 1)) (g (2 * nx n (Int.toNat (↑i :
 Int)))) (g (2 * nx n (Int.toNat (↑i : Int)) + 1)) px py) = false → ∃ (i' : Nat), (i' ≤ nsg cl n (wz g) ∧ (cpV g n qa qb qc qd px py al b ix i').1 = false)
∧ nsg cl n (wz g) - i' < nsg cl n (wz g) - i ∧ ((True ∧ 0 = 0) ∧ (Go.Fn.func 183 = Go.Fn.func 183 ∧ True ∧ (True ∧ 0 = 0) ∧ (True
∧ 0 = 0) ∧ (True ∧ 0 = 0) ∧ (True ∧ 0 = 0) ∧ True) ∧ (True ∧ 0 = 0) ∧ (↑(nsg cl n (wz g)) : Int) = (↑(nsg cl n (wz
 g)) : Int) ∧ Go.IntKind.wrap .i64 ((↑i : Int) + 1) = (↑i' : Int) ∧ True) ∧ True ∧ (cl = cl ∧ cw = cw ∧ cv = cv ∧ k = k ∧ True ∧ x = x ∧ y = y ∧ z = z ∧ w = w ∧ (True ∧ n = n) ∧ True) ∧ True ∧ (2 * n ≤ 2 * n ∧ ∀ (i : Nat), i <
2 * n → g i = g i) ∧ True ∧ (px = px ∧ py = py ∧ True) ∧ True ∧ (al = al ∧ True) ∧ True ∧ (3 = 3 ∧ 0 = 0 ∧ (if onW (g (2 * Int.toNat (↑i : Int))) (g (2 * Int.toNat (↑i : Int) +
1)) (g (2 * nx n (Int.toNat (↑i : Int)))) (g (2 * nx n (Int.toNat (↑i : Int)) + 1)) px py = true then (↑i : Int) else ((cpV g n qa qb qc qd px py
 al b ix i).2).2) = ((cpV g n qa qb qc qd px py al b ix i').2).2 ∧ True) ∧ True ∧ (4 = 4 ∧ 0 = 0 ∧ (if onW (g (2 * Int.toNat (↑i : Int))) (g (2 * Int.toNat
(↑i : Int) + 1)) (g (2 * nx n (Int.toNat (↑i : Int)))) (g (2 * nx n (Int.toNat (↑i : Int)) + 1)) px py = true then al else ((cpV g n qa qb qc qd
 px py al b ix i).2).1 ^^ lfW (g (2 * Int.toNat (↑i : Int))) (g (2 * Int.toNat (↑i : Int) + 1)) (g (2 * nx n (Int.toNat (↑i : Int)))) (g (2 * nx n (Int.toNat (↑i
: Int)) + 1)) px py) = ((cpV g n qa qb qc qd px py al b ix i').2).1 ∧ True) ∧ True ∧ (102 = 102 ∧ 0 = 0 ∧ qa = qa ∧ qb = qb ∧ qc = qc ∧ qd = qd ∧ True) ∧ True)) ∧ ((!fGt
.f64 (fmin (g (2 * Int.toNat (↑i : Int) + 1)) (g (2 * nx n (Int.toNat (↑i : Int)) + 1))) qd && !fLt .f64 (fmax (g (2 * Int.toNat (↑i : Int) + 1)) (g (2 * nx n (Int.toNat (↑i : Int)) + 1))) qb && !fGt .f64 (fmin (g (2 * Int.toNat (↑i : Int))) (g (2 * nx n (Int.toNat (↑i : Int))))) qc && !fLt
.f64 (fmax (g (2 * Int.toNat (↑i : Int))) (g (2 * nx n (Int.toNat (↑i : Int))))) qa) = false → ∃ (i' : Nat), (i' ≤ nsg cl n (wz g) ∧ Prod.fst
(cpV g n qa qb qc qd px py al b ix i') = false) ∧ nsg cl n (wz g) - i' < nsg cl n (wz g) - i ∧ ((True ∧ 0 = 0) ∧ (Go.Fn.func 183 =
 Go.Fn.func 183 ∧ True ∧ (True ∧ 0 = 0) ∧ (True ∧ 0 = 0) ∧ (True ∧ 0 = 0) ∧ (True ∧ 0 = 0) ∧ True) ∧ (True ∧ 0 = 0) ∧ (↑(nsg cl n
(wz g)) : Int) = (↑(nsg cl n (wz g)) : Int) ∧ Go.IntKind.wrap .i64 ((↑i : Int) + 1) = (↑i' : Int) ∧ True) ∧ True ∧ (cl = cl ∧ cw = cw ∧ cv = cv ∧ k = k ∧ True ∧ x = x ∧ y = y ∧ z = z ∧ w =
 w ∧ (True ∧ n = n) ∧ True) ∧ True ∧ (2 * n ≤ 2 * n ∧ ∀ (i : Nat), i < 2 * n → g i = g i) ∧ True ∧ (px = px ∧ py = py ∧ True) ∧ True ∧ (al = al ∧ True) ∧ True ∧ (3 = 3 ∧ 0 = 0 ∧ Prod.snd
((cpV g n qa qb qc qd px py al b ix i).2) = ((cpV g n qa qb qc qd px py al b ix i').2).2 ∧ True) ∧ True ∧ (4 = 4 ∧ 0 = 0 ∧ (Prod.snd
(cpV g n qa qb qc qd px py al b ix i)).1 = ((cpV g n qa qb qc qd px py al b ix i').2).1 ∧ True) ∧ True ∧ (102 = 102 ∧ 0 = 0 ∧ qa = qa ∧ qb = qb ∧ qc = qc ∧ qd = qd ∧
 True) ∧ True)) ∧ (decide ((↑i : Int) < (↑(nsg cl n (wz g)) : Int)) = false → True ∧ True ∧ (3 = 3 ∧ 0 = 0 ∧ ((cpV g n qa qb qc qd px py al b ix
 i).2).2 = ((cpV g n qa qb qc qd px py al b ix (nsg cl n (wz g))).2).2 ∧ True) ∧ True ∧ (4 = 4 ∧ 0 = 0 ∧ ((cpV g n qa
 qb qc qd px py al b ix i).2).1 = ((cpV g n qa qb qc qd px py al b ix (nsg cl n (wz g))).2).1 ∧ True) ∧ True)) := by kernel_rfl
theorem srCP : ConOk Tryz.prog 172 (conR srCPC) := by
 refine con_of_vc gssrCP Tryz.func172 rfl (by kernel_rfl) fun args => ?_
 unfold srCPC
 split
 · rename_i s qa qb qc qd p1 a1 x1 y1
   intro o0
   show RdM.All _ (match serOf o0.c with | some (cl, cw, cv, k, x, y, z, w, p, n) => _ | none => _) _
   split
   · rename_i cl cw cv k x y z w p n hm0
     intro o1
     show RdM.All _ (match fltsFrom .f64 o1.c with | some (m, g) => _ | none => _) _
     split
     · rename_i m1 g hm1
       intro o2
       show RdM.All _ (match bxP o2.c with | some (px, py) => _ | none => _) _
       split
       · rename_i px py hm2
         intro o3
         show RdM.All _ (match bxB o3.c with | some al => _ | none => _) _
         split
         · rename_i al hm3
           intro o4
           show RdM.All _ (match rwOk o4 3 0 with | true => _ | false => _) _
           split
           · rename_i hrw4
             show RdM.All _ (match bxI o4.c with | some ix => _ | none => _) _
             split
             · rename_i ix hm4
               intro o5
               show RdM.All _ (match rwOk o5 4 0 with | true => _ | false => _) _
               split
               · rename_i hrw5
                 show RdM.All _ (match bxB o5.c with | some b => _ | none => _) _
                 split
                 · rename_i b hm5
                   intro ho
                   replace ho : m1 = 2 * n ∧ n ≤ 1000000 ∧ SmF g (2 * n) ∧ W1 px ∧ W1 py := ho
                   obtain ⟨hsz1, ho⟩ := ho
                   subst hsz1
                   refine ⟨?_, _, _, (vc_srCP cl cw cv k x y z w p n qa qb qc qd px py al b ix g).mpr ?_⟩
                   · refine okFlag_mk rfl ⟨?_, ⟨trivial, serOf_spec hm0 (by simp [sgSig, fsts, nth, sameN_self]), ⟨trivial, (contR_flts hm1).1, ⟨trivial, bxP_spec hm2, ⟨trivial, bxB_spec hm3, ⟨trivial, obR_rw hrw4 (bxI_spec hm4), ⟨trivial, obR_rw hrw5 (bxB_spec hm5), trivial⟩⟩⟩⟩⟩⟩⟩
                     simp [eqvRL, eqvR, fkEq_self, sgSig, fsts, nth, sameN_self]
                   · obtain ⟨hn, hg, hx, hy⟩ := ho
                     have hns := nsg_le cl n (wz g)
                     generalize nsg cl n (wz g) = N at hns ⊢
                     simp only [true_and, and_true, eq_self, Nat.le_refl, implies_true, Int.toNat_natCast]
                     refine ⟨⟨hn, hg⟩, ⟨0, by simp [cpV, cpR]⟩, fun i hi => ⟨fun h => ?_, fun h => ?_⟩⟩
                     · have h := of_decide_eq_true h
                       have hiN : i < N := by omega
                       have n1 := nx_lt (show i < n by omega)
                       have hw : IntKind.i64.wrap ((i : Int) + 1) = ((i + 1 : Nat) : Int) := by rw [wrap64 (by omega) (by omega)]; omega
                       have step : cpV g n qa qb qc qd px py al b ix (i + 1) = if (cpV g n qa qb qc qd px py al b ix i).1 = true ∨ mtF g n qa qb qc qd i = false then cpV g n qa qb qc qd px py al b ix i else if onS g n px py i = true then (true, al, (i : Int)) else (false, xor (cpV g n qa qb qc qd px py al b ix i).2.1 (lfS g n px py i), (cpV g n qa qb qc qd px py al b ix i).2.2) := rfl
                       rw [hw]
                       refine ⟨⟨by omega, by omega, hn⟩, fun hm => ⟨pw_of (hg _ (by omega)) (hg _ (by omega)) (hg _ (by omega)) (hg _ (by omega)) hx hy, fun ho => ?_, fun ho => ?_⟩, fun hm => ?_⟩
                       · have ho' : onS g n px py i = true := by unfold onS; simpa using ho
                         have hm' : mtF g n qa qb qc qd i = true := hm
                         have s1 : cpV g n qa qb qc qd px py al b ix (i + 1) = (true, al, (i : Int)) := by rw [step, if_neg (by simp [hi.2, hm']), if_pos ho']
                         have s2 : cpV g n qa qb qc qd px py al b ix N = cpV g n qa qb qc qd px py al b ix (i + 1) := cpR_stop (show (cpV g n qa qb qc qd px py al b ix (i + 1)).1 = true by rw [s1]) N (by omega)
                         rw [s2, s1]
                         unfold onS at ho'
                         rw [if_pos ho', if_pos ho']
                         simp
                       · have ho' : onS g n px py i = false := by unfold onS; simpa using ho
                         have hm' : mtF g n qa qb qc qd i = true := hm
                         have s1 : cpV g n qa qb qc qd px py al b ix (i + 1) = (false, xor (cpV g n qa qb qc qd px py al b ix i).2.1 (lfS g n px py i), (cpV g n qa qb qc qd px py al b ix i).2.2) := by rw [step, if_neg (by simp [hi.2, hm']), if_neg (by simp [ho'])]
                         refine ⟨i + 1, ⟨by omega, by rw [s1]⟩, by omega, rfl, ?_⟩
                         rw [s1]
                         unfold onS at ho'
                         rw [if_neg (by rw [ho']; simp), if_neg (by rw [ho']; simp)]
                         simp [lfS]
                       · have hm' : mtF g n qa qb qc qd i = false := hm
                         have s1 : cpV g n qa qb qc qd px py al b ix (i + 1) = cpV g n qa qb qc qd px py al b ix i := by rw [step, if_pos (.inr hm')]
                         exact ⟨i + 1, ⟨by omega, by rw [s1]; exact hi.2⟩, by omega, rfl, by rw [s1]; simp⟩
                     · have h := of_decide_eq_false h
                       have : i = N := by omega
                       subst this
                       simp
                 · trivial
               · trivial
             · trivial
           · trivial
         · trivial
       · trivial
     · trivial
   · trivial
 · trivial
noncomputable def GssrIS : Ctx := ⟨⟨tys, []⟩, [(111, conR sNumSC), (112, conR sSegC), (113, pureCon sRectF), (175, pureCon rMeetF), (209, conR isCC)]⟩
theorem gssrIS : CtxOk Tryz.prog GssrIS := ⟨⟨tysOk, FlatsOk.nil⟩, GamOk.cons sNumS (GamOk.cons sSeg (GamOk.cons (.pure sRect) (GamOk.cons (.pure rMeet) (GamOk.cons isC GamOk.nil)))), by kernel_rfl⟩
noncomputable def LsrIS (cl cw cv : Bool) (k : Int) (x y z w n : Nat) (g : Nat → Nat) (qa qb qc qd : Nat) (ax ay bx by' : Nat) (al ao bo : Bool) : Fam := ⟨Nat, fun i =>
 ⟨69, [(0, .ptr 0 0), (2, .fn (.func 209) [] [.ptr 2 0, .ptr 3 0, .ptr 4 0, .ptr 5 0, .ptr 6 0]), (4, .ptr 7 0), (7, .int .i64 (nsg cl n (wz g))), (8, .int .i64 i)], [(0, ⟨false, 150, serC cl cw cv k x y z w 1 n, 0⟩), (1, ⟨false, 100, .flts .f64 (2 * n) g, 0⟩), (2, ⟨false, 111, bx4C ax ay bx by', 0⟩), (3, ⟨false, 4, bxBC al, 0⟩), (4, ⟨true, 4, bxBC (isV g n qa qb qc qd ax ay bx by' al ao bo i).2.1, 0⟩), (5, ⟨true, 4, bxBC (isV g n qa qb qc qd ax ay bx by' al ao bo i).2.2.1, 0⟩), (6, ⟨true, 3, bxIC (isV g n qa qb qc qd ax ay bx by' al ao bo i).2.2.2, 0⟩), (7, ⟨true, 102, .cells (qC qa qb qc qd), 0⟩)], 8⟩, fun i => i ≤ nsg cl n (wz g) ∧ (isV g n qa qb qc qd ax ay bx by' al ao bo i).1 = true, fun i => nsg cl n (wz g) - i⟩
noncomputable def srISC : List SV → RdM
 | [.ptr s 0, .agg [.flt .f64 qa, .flt .f64 qb, .flt .f64 qc, .flt .f64 qd], .fn (.func 209) [] [.ptr p1 0, .ptr a1 0, .ptr x1 0, .ptr y1 0, .ptr z1 0]] => .read s fun o0 => (match serOf o0.c with
   | some (cl, cw, cv, k, x, y, z, w, p, n) => .read p fun o1 => (match fltsFrom .f64 o1.c with
   | some (m1, g) => .read p1 fun o2 => (match bx4 o2.c with
   | some (ax, ay, bx, by') => .read a1 fun o3 => (match bxB o3.c with
   | some al => .read x1 fun o4 => (match rwOk o4 4 0 with
   | true => (match bxB o4.c with
   | some ao => .read y1 fun o5 => (match rwOk o5 4 0 with
   | true => (match bxB o5.c with
   | some bo => .read z1 fun o6 => (match rwOk o6 3 0 with
   | true => (match bxI o6.c with
   | some ct => .ret ⟨[.ptr 0 0, .agg [.flt .f64 qa, .flt .f64 qb, .flt .f64 qc, .flt .f64 qd], .fn (.func 209) [] [.ptr 2 0, .ptr 3 0, .ptr 4 0, .ptr 5 0, .ptr 6 0]], [(0, ⟨false, 150, serC cl cw cv k x y z w 1 n, 0⟩), (1, ⟨false, 100, .flts .f64 m1 g, 0⟩), (2, ⟨false, 111, bx4C ax ay bx by', 0⟩), (3, ⟨false, 4, bxBC al, 0⟩), (4, ⟨true, 4, bxBC ao, 0⟩), (5, ⟨true, 4, bxBC bo, 0⟩), (6, ⟨true, 3, bxIC ct, 0⟩)], .tup [], [(4, ⟨true, 4, bxBC (isV g n qa qb qc qd ax ay bx by' al ao bo (nsg cl n (wz g))).2.1, 0⟩), (5, ⟨true, 4, bxBC (isV g n qa qb qc qd ax ay bx by' al ao bo (nsg cl n (wz g))).2.2.1, 0⟩), (6, ⟨true, 3, bxIC (isV g n qa qb qc qd ax ay bx by' al ao bo (nsg cl n (wz g))).2.2.2, 0⟩)], [], some (m1 = 2 * n ∧ n ≤ 1000000 ∧ SmF g (2 * n) ∧ (W1 ax ∧ W1 ay ∧ W1 bx ∧ W1 by') ∧ ct = 0)⟩
   | none => .fail)
   | false => .fail)
   | none => .fail)
   | false => .fail)
   | none => .fail)
   | false => .fail)
   | none => .fail)
   | none => .fail)
   | none => .fail)
   | none => .fail)
 | _ => .fail
theorem vc_srIS (cl cw cv : Bool) (k : Int) (x y z w : Nat) (_ : Nm) (n : Nat) (qa qb qc qd : Nat) (ax ay bx by' : Nat) (al ao bo : Bool) (ct : Int)  (g : Nat → Nat) : runA GssrIS 7 [(5, LsrIS cl cw cv k x y z w n g qa qb qc qd ax ay bx by' al ao bo)] [] (codeOf Tryz.f172) (init Tryz.f172.ntmps [.ptr 0 0, .agg [.flt .f64 qa, .flt .f64 qb, .flt .f64 qc, .flt .f64 qd], .fn (.func 209) [] [.ptr 2 0, .ptr 3 0, .ptr 4 0, .ptr 5 0, .ptr 6 0]] [(0, ⟨false, 150, serC cl cw cv k x y z w 1 n, 0⟩), (1, ⟨false, 100, .flts .f64 (2 * n) g, 0⟩), (2, ⟨false, 111, bx4C ax ay bx by', 0⟩), (3, ⟨false, 4, bxBC al, 0⟩), (4, ⟨true, 4, bxBC ao, 0⟩), (5, ⟨true, 4, bxBC bo, 0⟩), (6, ⟨true, 3, bxIC ct, 0⟩)] 7) (endK GssrIS.E.T Tryz.f172.results.toList fun S v => postP 7 ⟨[.ptr 0 0, .agg [.flt .f64 qa, .flt .f64 qb, .flt .f64 qc, .flt .f64 qd], .fn (.func 209) [] [.ptr 2 0, .ptr 3 0, .ptr 4 0, .ptr 5 0, .ptr 6 0]], [(0, ⟨false, 150, serC cl cw cv k x y z w 1 n, 0⟩), (1, ⟨false, 100, .flts .f64 (2 * n) g, 0⟩), (2, ⟨false, 111, bx4C ax ay bx by', 0⟩), (3, ⟨false, 4, bxBC al, 0⟩), (4, ⟨true, 4, bxBC ao, 0⟩), (5, ⟨true, 4, bxBC bo, 0⟩), (6, ⟨true, 3, bxIC ct, 0⟩)], .tup [], [(4, ⟨true, 4, bxBC (isV g n qa qb qc qd ax ay bx by' al ao bo (nsg cl n (wz g))).2.1, 0⟩), (5, ⟨true, 4, bxBC (isV g n qa qb qc qd ax ay bx by' al ao bo (nsg cl n (wz g))).2.2.1, 0⟩), (6, ⟨true, 3, bxIC (isV g n qa qb qc qd ax ay bx by' al ao bo (nsg cl n (wz g))).2.2.2, 0⟩)], [], some (2 * n = 2 * n ∧ n ≤ 1000000 ∧ SmF g (2 * n) ∧ (W1 ax ∧ W1 ay ∧ W1 bx ∧ W1 by') ∧ ct = 0)⟩ S v) = (
(2 * n = 2 * n ∧ n ≤ 1000000 ∧ SmF g (2 * n)) ∧ (∃ (i : Nat), (i ≤ nsg cl n (wz g) ∧ (isV g n qa qb qc qd ax ay bx by' al ao bo i).1 =
 true) ∧ ((True ∧ 0 = 0) ∧ (Go.Fn.func 209 = Go.Fn.func 209 ∧ True ∧ (True ∧ 0 = 0) ∧ (True ∧ 0 = 0) ∧ (True ∧ 0 = 0) ∧ (True ∧ 0 = 0) ∧ (True ∧ 0
= 0) ∧ True) ∧ (True ∧ 0 = 0) ∧ (↑(nsg cl n (wz g)) : Int) = (↑(nsg cl n (wz g)) : Int) ∧ 0 = (↑i : Int) ∧ True) ∧ True ∧ (cl = cl ∧ cw = cw ∧ cv
= cv ∧ k = k ∧ True ∧ x = x ∧ y = y ∧ z = z ∧ w = w ∧ (True ∧ n = n) ∧ True) ∧ True ∧ (2 * n ≤ 2 * n ∧ ∀ (i : Nat), i < 2 * n → g i = g i) ∧ True ∧ (ax = ax ∧ ay = ay ∧ bx = bx ∧ by' = by' ∧ True) ∧ True ∧ (al = al ∧ True) ∧
 True ∧ (4 = 4 ∧ 0 = 0 ∧ ao = ((isV g n qa qb qc qd ax ay bx by' al ao bo i).2).1 ∧ True) ∧ True ∧ (4 = 4 ∧ 0 = 0 ∧ bo = ((Prod.snd
(isV g n qa qb qc qd ax ay bx by' al ao bo i)).2).1 ∧ True) ∧ True ∧ (3 = 3 ∧ 0 = 0 ∧ ct = (((isV g n qa qb qc qd ax ay bx by' al ao bo i).2).2).2 ∧ True) ∧ True ∧
(102 = 102 ∧ 0 = 0 ∧ qa = qa ∧ qb = qb ∧ qc = qc ∧ qd = qd ∧ True) ∧ True) ∧ ∀ (i : Nat), i ≤ nsg cl n (wz g) ∧ (isV g n qa qb qc qd ax ay bx by' al ao bo
 i).1 = true → (decide ((↑i : Int) < (↑(nsg cl n (wz g)) : Int)) = true → (2 * n = 2 * n ∧ 0 ≤ (↑i : Int) ∧ (↑i : Int) < (↑n : Int) ∧ n ≤ 1000000) ∧ true = true ∧ ((!fGt .f64
(fmin (g (2 * Int.toNat (↑i : Int) + 1)) (g (2 * nx n (Int.toNat (↑i : Int)) + 1))) qd && !fLt .f64 (fmax (g (2 * Int.toNat (↑i : Int) + 1))
(g (2 * nx n (Int.toNat (↑i : Int)) + 1))) qb && !fGt .f64 (fmin (g (2 * Int.toNat (↑i : Int))) (g (2 * nx n (Int.toNat (↑i : Int))))) qc && !fLt .f64
(fmax (g (2 * Int.toNat (↑i : Int))) (g (2 * nx n (Int.toNat (↑i : Int))))) qa) = true → (W8 ax ay bx by' (g (2 * Int.toNat (↑i : Int))) (g (2 * Int.toNat (↑i :
 Int) + 1)) (g (2 * nx n (Int.toNat (↑i : Int)))) (g (2 * nx n (Int.toNat (↑i : Int)) + 1)) ∧ (0 : Int) ≤ (((isV g n qa qb qc qd ax ay bx
 by' al ao bo i).2).2).2 ∧ (((isV g n qa qb qc qd ax ay bx by' al ao bo i).2).2).2 ≤ (1000000 : Int)) ∧ ((!(isStp ax ay bx by' (g (2 * Int.toNat (↑i : Int))) (g (2 * Int.toNat
(↑i : Int) + 1)) (g (2 * nx n (Int.toNat (↑i : Int)))) (g (2 * nx n (Int.toNat (↑i : Int)) + 1)) al (((isV g n qa qb qc qd ax ay bx by' al ao bo
 i).2).1) ((((isV g n qa qb qc qd ax ay bx by' al ao bo i).2).2).1) ((((isV g n qa qb qc qd ax ay bx by' al ao bo i).2).2).2)).1) = true → True ∧ True ∧ (4 = 4 ∧
0 = 0 ∧ ((isStp ax ay bx by' (g (2 * Int.toNat (↑i : Int))) (g (2 * Int.toNat (↑i : Int) + 1)) (g (2 * nx n (Int.toNat (↑i : Int)))) (g (2 *
 nx n (Int.toNat (↑i : Int)) + 1)) al (((isV g n qa qb qc qd ax ay bx by' al ao bo i).2).1) ((((isV g n qa qb qc qd ax ay bx by' al ao bo i).2).2).1)
((((isV g n qa qb qc qd ax ay bx by' al ao bo i).2).2).2)).2).1 = ((isV g n qa qb qc qd ax ay bx by' al ao bo (nsg cl n (wz g))).2).1 ∧ True) ∧
 True ∧ (4 = 4 ∧ 0 = 0 ∧ (((isStp ax ay bx by' (g (2 * Int.toNat (↑i : Int))) (g (2 * Int.toNat (↑i : Int) + 1)) (g (2 * nx
 n (Int.toNat (↑i : Int)))) (g (2 * nx n (Int.toNat (↑i : Int)) + 1)) al (((isV g n qa qb qc qd ax ay bx by' al ao bo i).2).1) ((((isV g n
 qa qb qc qd ax ay bx by' al ao bo i).2).2).1) ((((isV g n qa qb qc qd ax ay bx by' al ao bo i).2).2).2)).2).2).1 = (((isV g n qa qb qc qd ax ay bx by' al ao bo
(nsg cl n (wz g))).2).2).1 ∧ True) ∧ True ∧ (3 = 3 ∧ 0 = 0 ∧ (((isStp ax ay bx by' (g (2 * Int.toNat (↑i : Int))) (g (2 *
 Int.toNat (↑i : Int) + 1)) (g (2 * nx n (Int.toNat (↑i : Int)))) (g (2 * nx n (Int.toNat (↑i : Int)) + 1)) al (((isV g n qa qb qc qd ax ay bx by'
 al ao bo i).2).1) ((((isV g n qa qb qc qd ax ay bx by' al ao bo i).2).2).1) ((((isV g n qa qb qc qd ax ay bx by' al ao bo i).2).2).2)).2).2).2 = ((Prod.snd
(isV g n qa qb qc qd ax ay bx by' al ao bo (nsg cl n (wz g)))).2).2 ∧ True) ∧ True) ∧ ((!(isStp ax ay bx by' (g (2 * Int.toNat (↑i : Int))) (g (2 * Int.toNat
(↑i : Int) + 1)) (g (2 * nx n (Int.toNat (↑i : Int)))) (g (2 * nx n (Int.toNat (↑i : Int)) + 1)) al (((isV g n qa qb qc qd ax ay bx by' al ao bo
 i).2).1) ((((isV g n qa qb qc qd ax ay bx by' al ao bo i).2).2).1) ((((isV g n qa qb qc qd ax ay bx by' al ao bo i).2).2).2)).1) = false → ∃ (i' : Nat), (i' ≤
 nsg cl n (wz g) ∧ (isV g n qa qb qc qd ax ay bx by' al ao bo i').1 = true) ∧ nsg cl n (wz g) - i' < nsg cl n (wz g) -
 i ∧ ((True ∧ 0 = 0) ∧ (Go.Fn.func 209 = Go.Fn.func 209 ∧ True ∧ (True ∧ 0 = 0) ∧ (True ∧ 0 = 0) ∧ (True ∧ 0 = 0) ∧ (True ∧ 0 = 0) ∧ (True ∧ 0 = 0) ∧ True) ∧ (True ∧ 0 = 0) ∧ (↑(nsg cl n (wz g)) : Int) = (↑(nsg cl n (wz g)) : Int) ∧ Go.IntKind.wrap .i64 ((↑i : Int) + 1) = (↑i' : Int) ∧ True) ∧
 True ∧ (cl = cl ∧ cw = cw ∧ cv = cv ∧ k = k ∧ True ∧ x = x ∧ y = y ∧ z = z ∧ w = w ∧ (True ∧ n = n) ∧ True) ∧ True ∧ (2 * n ≤ 2 * n ∧ ∀ (i : Nat), i < 2 * n → g i = g i) ∧ True ∧ (ax = ax ∧ ay = ay ∧ bx = bx ∧ by' = by' ∧
 True) ∧ True ∧ (al = al ∧ True) ∧ True ∧ (4 = 4 ∧ 0 = 0 ∧ ((isStp ax ay bx by' (g (2 * Int.toNat (↑i : Int))) (g (2 * Int.toNat (↑i : Int) + 1)) (g (2
* nx n (Int.toNat (↑i : Int)))) (g (2 * nx n (Int.toNat (↑i : Int)) + 1)) al (((isV g n qa qb qc qd ax ay bx by' al ao bo i).2).1) (((Prod.snd
(isV g n qa qb qc qd ax ay bx by' al ao bo i)).2).1) ((((isV g n qa qb qc qd ax ay bx by' al ao bo i).2).2).2)).2).1 = ((isV g n qa qb qc qd ax ay bx by' al ao bo
 i').2).1 ∧ True) ∧ True ∧ (4 = 4 ∧ 0 = 0 ∧ (((isStp ax ay bx by' (g (2 * Int.toNat (↑i : Int))) (g (2 * Int.toNat (↑i : Int) + 1)) (g (2 *
 nx n (Int.toNat (↑i : Int)))) (g (2 * nx n (Int.toNat (↑i : Int)) + 1)) al (((isV g n qa qb qc qd ax ay bx by' al ao bo i).2).1) (((Prod.snd
(isV g n qa qb qc qd ax ay bx by' al ao bo i)).2).1) ((((isV g n qa qb qc qd ax ay bx by' al ao bo i).2).2).2)).2).2).1 = (((isV g n qa qb qc qd ax ay bx by'
 al ao bo i').2).2).1 ∧ True) ∧ True ∧ (3 = 3 ∧ 0 = 0 ∧ (((isStp ax ay bx by' (g (2 * Int.toNat (↑i : Int))) (g (2 * Int.toNat (↑i : Int) + 1)) (g (2 * nx n (Int.toNat (↑i : Int)))) (g (2 * nx n (Int.toNat (↑i : Int)) + 1)) al (((isV g n qa qb qc qd ax ay bx by' al ao bo i).2).1) (((Prod.snd
(isV g n qa qb qc qd ax ay bx by' al ao bo i)).2).1) ((((isV g n qa qb qc qd ax ay bx by' al ao bo i).2).2).2)).2).2).2 = (((isV g n qa qb qc qd ax ay bx by'
 al ao bo i').2).2).2 ∧ True) ∧ True ∧ (102 = 102 ∧ 0 = 0 ∧ qa = qa ∧ qb = qb ∧ qc = qc ∧ qd = qd ∧ True) ∧ True)) ∧ ((!fGt .f64 (fmin (g (2 * Int.toNat (↑i : Int) + 1)) (g (2 *
 nx n (Int.toNat (↑i : Int)) + 1))) qd && !fLt .f64 (fmax (g (2 * Int.toNat (↑i : Int) + 1)) (g (2 * nx n (Int.toNat (↑i : Int)) + 1))) qb &&
!fGt .f64 (fmin (g (2 * Int.toNat (↑i : Int))) (g (2 * nx n (Int.toNat (↑i : Int))))) qc && !fLt .f64 (fmax (g (2 * Int.toNat (↑i : Int))) (g (2 *
 nx n (Int.toNat (↑i : Int))))) qa) = false → ∃ (i' : Nat), (i' ≤ nsg cl n (wz g) ∧ (isV g n qa qb qc qd ax ay bx by' al ao bo i').1 = true) ∧ nsg cl n
(wz g) - i' < nsg cl n (wz g) - i ∧ ((True ∧ 0 = 0) ∧ (Go.Fn.func 209 = Go.Fn.func 209 ∧ True ∧ (True ∧ 0 = 0) ∧ (True ∧ 0 = 0) ∧
(True ∧ 0 = 0) ∧ (True ∧ 0 = 0) ∧ (True ∧ 0 = 0) ∧ True) ∧ (True ∧ 0 = 0) ∧ (↑(nsg cl n (wz g)) : Int) = (↑(nsg cl n
(wz g)) : Int) ∧ Go.IntKind.wrap .i64 ((↑i : Int) + 1) = (↑i' : Int) ∧ True) ∧ True ∧ (cl = cl ∧ cw = cw ∧ cv = cv ∧ k = k ∧ True ∧ x = x ∧ y = y ∧ z = z ∧ w = w ∧ (True ∧ n = n) ∧ True) ∧ True ∧ (2 * n ≤ 2 *
 n ∧ ∀ (i : Nat), i < 2 * n → g i = g i) ∧ True ∧ (ax = ax ∧ ay = ay ∧ bx = bx ∧ by' = by' ∧ True) ∧ True ∧ (al = al ∧ True) ∧ True ∧ (4 = 4 ∧ 0 = 0 ∧ ((isV g n qa qb qc qd ax
 ay bx by' al ao bo i).2).1 = ((isV g n qa qb qc qd ax ay bx by' al ao bo i').2).1 ∧ True) ∧ True ∧ (4 = 4 ∧ 0 = 0 ∧ (((isV g n qa qb qc qd ax ay
 bx by' al ao bo i).2).2).1 = (((isV g n qa qb qc qd ax ay bx by' al ao bo i').2).2).1 ∧ True) ∧ True ∧ (3 = 3 ∧ 0 = 0 ∧ (((isV g n qa qb qc
 qd ax ay bx by' al ao bo i).2).2).2 = (((isV g n qa qb qc qd ax ay bx by' al ao bo i').2).2).2 ∧ True) ∧ True ∧ (102 = 102 ∧ 0 = 0 ∧ qa = qa ∧ qb = qb ∧ qc = qc ∧ qd = qd ∧ True) ∧
 True)) ∧ (decide ((↑i : Int) < (↑(nsg cl n (wz g)) : Int)) = false → True ∧ True ∧ (4 = 4 ∧ 0 = 0 ∧ ((isV g n qa qb qc qd ax ay bx by' al ao bo
 i).2).1 = ((isV g n qa qb qc qd ax ay bx by' al ao bo (nsg cl n (wz g))).2).1 ∧ True) ∧ True ∧ (4 = 4 ∧ 0 = 0 ∧ ((Prod.snd
(isV g n qa qb qc qd ax ay bx by' al ao bo i)).2).1 = (((isV g n qa qb qc qd ax ay bx by' al ao bo (nsg cl n (wz g))).2).2).1 ∧ True) ∧ True ∧ (3 = 3 ∧ 0 = 0 ∧ (((isV g n qa qb qc qd ax ay bx by' al ao bo i).2).2).2 = (((isV g n qa qb qc qd ax ay bx by' al ao bo (nsg cl n
(wz g))).2).2).2 ∧ True) ∧ True)) := by kernel_rfl
theorem srIS : ConOk Tryz.prog 172 (conR srISC) := by
 refine con_of_vc gssrIS Tryz.func172 rfl (by kernel_rfl) fun args => ?_
 unfold srISC
 split
 · rename_i s qa qb qc qd p1 a1 x1 y1 z1
   intro o0
   show RdM.All _ (match serOf o0.c with | some (cl, cw, cv, k, x, y, z, w, p, n) => _ | none => _) _
   split
   · rename_i cl cw cv k x y z w p n hm0
     intro o1
     show RdM.All _ (match fltsFrom .f64 o1.c with | some (m, g) => _ | none => _) _
     split
     · rename_i m1 g hm1
       intro o2
       show RdM.All _ (match bx4 o2.c with | some (ax, ay, bx, by') => _ | none => _) _
       split
       · rename_i ax ay bx by' hm2
         intro o3
         show RdM.All _ (match bxB o3.c with | some al => _ | none => _) _
         split
         · rename_i al hm3
           intro o4
           show RdM.All _ (match rwOk o4 4 0 with | true => _ | false => _) _
           split
           · rename_i hrw4
             show RdM.All _ (match bxB o4.c with | some ao => _ | none => _) _
             split
             · rename_i ao hm4
               intro o5
               show RdM.All _ (match rwOk o5 4 0 with | true => _ | false => _) _
               split
               · rename_i hrw5
                 show RdM.All _ (match bxB o5.c with | some bo => _ | none => _) _
                 split
                 · rename_i bo hm5
                   intro o6
                   show RdM.All _ (match rwOk o6 3 0 with | true => _ | false => _) _
                   split
                   · rename_i hrw6
                     show RdM.All _ (match bxI o6.c with | some ct => _ | none => _) _
                     split
                     · rename_i ct hm6
                       intro ho
                       replace ho : m1 = 2 * n ∧ n ≤ 1000000 ∧ SmF g (2 * n) ∧ (W1 ax ∧ W1 ay ∧ W1 bx ∧ W1 by') ∧ ct = 0 := ho
                       obtain ⟨hsz1, ho⟩ := ho
                       subst hsz1
                       refine ⟨?_, _, _, (vc_srIS cl cw cv k x y z w p n qa qb qc qd ax ay bx by' al ao bo ct g).mpr ?_⟩
                       · refine okFlag_mk rfl ⟨?_, ⟨trivial, serOf_spec hm0 (by simp [sgSig, fsts, nth, sameN_self]), ⟨trivial, (contR_flts hm1).1, ⟨trivial, bx4_spec hm2, ⟨trivial, bxB_spec hm3, ⟨trivial, obR_rw hrw4 (bxB_spec hm4), ⟨trivial, obR_rw hrw5 (bxB_spec hm5), ⟨trivial, obR_rw hrw6 (bxI_spec hm6), trivial⟩⟩⟩⟩⟩⟩⟩⟩
                         simp [eqvRL, eqvR, fkEq_self, sgSig, fsts, nth, sameN_self]
                       · obtain ⟨hn, hg, ⟨h1, h2, h3, h4⟩, hct⟩ := ho
                         have hns := nsg_le cl n (wz g)
                         generalize nsg cl n (wz g) = N at hns ⊢
                         simp only [true_and, and_true, eq_self, Nat.le_refl, implies_true, Int.toNat_natCast]
                         refine ⟨⟨hn, hg⟩, ⟨0, by simp [isV, isR, hct]⟩, fun i hi => ⟨fun h => ?_, fun h => ?_⟩⟩
                         · have h := of_decide_eq_true h
                           have hiN : i < N := by omega
                           have n1 := nx_lt (show i < n by omega)
                           have hw : IntKind.i64.wrap ((i : Int) + 1) = ((i + 1 : Nat) : Int) := by rw [wrap64 (by omega) (by omega)]; omega
                           have step : isV g n qa qb qc qd ax ay bx by' al ao bo (i + 1) = if (isV g n qa qb qc qd ax ay bx by' al ao bo i).1 = false ∨ mtF g n qa qb qc qd i = false then isV g n qa qb qc qd ax ay bx by' al ao bo i else isStp ax ay bx by' (g (2 * i)) (g (2 * i + 1)) (g (2 * nx n i)) (g (2 * nx n i + 1)) al (isV g n qa qb qc qd ax ay bx by' al ao bo i).2.1 (isV g n qa qb qc qd ax ay bx by' al ao bo i).2.2.1 (isV g n qa qb qc qd ax ay bx by' al ao bo i).2.2.2 := rfl
                           have hcb : 0 ≤ (isV g n qa qb qc qd ax ay bx by' al ao bo i).2.2.2 ∧ (isV g n qa qb qc qd ax ay bx by' al ao bo i).2.2.2 ≤ i := isR_ct i
                           rw [hw]
                           refine ⟨⟨by omega, by omega, hn⟩, fun hm => ?_, fun hm => ?_⟩
                           · have hm' : mtF g n qa qb qc qd i = true := hm
                             have s1 : isV g n qa qb qc qd ax ay bx by' al ao bo (i + 1) = isStp ax ay bx by' (g (2 * i)) (g (2 * i + 1)) (g (2 * nx n i)) (g (2 * nx n i + 1)) al (isV g n qa qb qc qd ax ay bx by' al ao bo i).2.1 (isV g n qa qb qc qd ax ay bx by' al ao bo i).2.2.1 (isV g n qa qb qc qd ax ay bx by' al ao bo i).2.2.2 := by rw [step, if_neg (by simp [hi.2, hm'])]
                             rw [← s1]
                             refine ⟨⟨⟨⟨h1, h2, h3, h4⟩, hg _ (by omega), hg _ (by omega), hg _ (by omega), hg _ (by omega)⟩, hcb.1, by omega⟩, fun ho => ?_, fun ho => ?_⟩
                             · have ho' : (isV g n qa qb qc qd ax ay bx by' al ao bo (i + 1)).1 = false := by simpa using ho
                               have s2 : isV g n qa qb qc qd ax ay bx by' al ao bo N = isV g n qa qb qc qd ax ay bx by' al ao bo (i + 1) := isR_stop ho' N (by omega)
                               rw [s2]
                               simp
                             · have ho' : (isV g n qa qb qc qd ax ay bx by' al ao bo (i + 1)).1 = true := by simpa using ho
                               exact ⟨i + 1, ⟨by omega, ho'⟩, by omega, rfl, by simp⟩
                           · have hm' : mtF g n qa qb qc qd i = false := hm
                             have s1 : isV g n qa qb qc qd ax ay bx by' al ao bo (i + 1) = isV g n qa qb qc qd ax ay bx by' al ao bo i := by rw [step, if_pos (.inr hm')]
                             exact ⟨i + 1, ⟨by omega, by rw [s1]; exact hi.2⟩, by omega, rfl, by rw [s1]; simp⟩
                         · have h := of_decide_eq_false h
                           have : i = N := by omega
                           subst this
                           simp
                     · trivial
                   · trivial
                 · trivial
               · trivial
             · trivial
           · trivial
         · trivial
       · trivial
     · trivial
   · trivial
 · trivial
noncomputable def GssrIX1 : Ctx := ⟨⟨tys, []⟩, [(111, conR sNumSC), (112, conR sSegC), (113, pureCon sRectF), (175, pureCon rMeetF), (216, conR ix1C)]⟩
theorem gssrIX1 : CtxOk Tryz.prog GssrIX1 := ⟨⟨tysOk, FlatsOk.nil⟩, GamOk.cons sNumS (GamOk.cons sSeg (GamOk.cons (.pure sRect) (GamOk.cons (.pure rMeet) (GamOk.cons ix1 GamOk.nil)))), by kernel_rfl⟩
noncomputable def LsrIX1 (cl cw cv : Bool) (k : Int) (x y z w n : Nat) (g : Nat → Nat) (qa qb qc qd : Nat) (ax ay bx by' : Nat) (b : Bool) : Fam := ⟨Nat, fun i =>
 ⟨69, [(0, .ptr 0 0), (2, .fn (.func 216) [] [.ptr 2 0, .ptr 3 0]), (4, .ptr 4 0), (7, .int .i64 (nsg cl n (wz g))), (8, .int .i64 i)], [(0, ⟨false, 150, serC cl cw cv k x y z w 1 n, 0⟩), (1, ⟨false, 100, .flts .f64 (2 * n) g, 0⟩), (2, ⟨false, 111, bx4C ax ay bx by', 0⟩), (3, ⟨true, 4, bxBC (ixV1 g n qa qb qc qd ax ay bx by' i || b), 0⟩), (4, ⟨true, 102, .cells (qC qa qb qc qd), 0⟩)], 5⟩, fun i => i ≤ nsg cl n (wz g) ∧ ixV1 g n qa qb qc qd ax ay bx by' i = false, fun i => nsg cl n (wz g) - i⟩
noncomputable def srIX1C : List SV → RdM
 | [.ptr s 0, .agg [.flt .f64 qa, .flt .f64 qb, .flt .f64 qc, .flt .f64 qd], .fn (.func 216) [] [.ptr p1 0, .ptr a1 0]] => .read s fun o0 => (match serOf o0.c with
   | some (cl, cw, cv, k, x, y, z, w, p, n) => .read p fun o1 => (match fltsFrom .f64 o1.c with
   | some (m1, g) => .read p1 fun o2 => (match bx4 o2.c with
   | some (ax, ay, bx, by') => .read a1 fun o3 => (match rwOk o3 4 0 with
   | true => (match bxB o3.c with
   | some b => .ret ⟨[.ptr 0 0, .agg [.flt .f64 qa, .flt .f64 qb, .flt .f64 qc, .flt .f64 qd], .fn (.func 216) [] [.ptr 2 0, .ptr 3 0]], [(0, ⟨false, 150, serC cl cw cv k x y z w 1 n, 0⟩), (1, ⟨false, 100, .flts .f64 m1 g, 0⟩), (2, ⟨false, 111, bx4C ax ay bx by', 0⟩), (3, ⟨true, 4, bxBC b, 0⟩)], .tup [], [(3, ⟨true, 4, bxBC (ixV1 g n qa qb qc qd ax ay bx by' (nsg cl n (wz g)) || b), 0⟩)], [], some (m1 = 2 * n ∧ n ≤ 1000000 ∧ SmF g (2 * n) ∧ W1 ax ∧ W1 ay ∧ W1 bx ∧ W1 by')⟩
   | none => .fail)
   | false => .fail)
   | none => .fail)
   | none => .fail)
   | none => .fail)
 | _ => .fail
theorem vc_srIX1 (cl cw cv : Bool) (k : Int) (x y z w : Nat) (_ : Nm) (n : Nat) (qa qb qc qd : Nat) (ax ay bx by' : Nat) (b : Bool)  (g : Nat → Nat) : runA GssrIX1 4 [(5, LsrIX1 cl cw cv k x y z w n g qa qb qc qd ax ay bx by' b)] [] (codeOf Tryz.f172) (init Tryz.f172.ntmps [.ptr 0 0, .agg [.flt .f64 qa, .flt .f64 qb, .flt .f64 qc, .flt .f64 qd], .fn (.func 216) [] [.ptr 2 0, .ptr 3 0]] [(0, ⟨false, 150, serC cl cw cv k x y z w 1 n, 0⟩), (1, ⟨false, 100, .flts .f64 (2 * n) g, 0⟩), (2, ⟨false, 111, bx4C ax ay bx by', 0⟩), (3, ⟨true, 4, bxBC b, 0⟩)] 4) (endK GssrIX1.E.T Tryz.f172.results.toList fun S v => postP 4 ⟨[.ptr 0 0, .agg [.flt .f64 qa, .flt .f64 qb, .flt .f64 qc, .flt .f64 qd], .fn (.func 216) [] [.ptr 2 0, .ptr 3 0]], [(0, ⟨false, 150, serC cl cw cv k x y z w 1 n, 0⟩), (1, ⟨false, 100, .flts .f64 (2 * n) g, 0⟩), (2, ⟨false, 111, bx4C ax ay bx by', 0⟩), (3, ⟨true, 4, bxBC b, 0⟩)], .tup [], [(3, ⟨true, 4, bxBC (ixV1 g n qa qb qc qd ax ay bx by' (nsg cl n (wz g)) || b), 0⟩)], [], some (2 * n = 2 * n ∧ n ≤ 1000000 ∧ SmF g (2 * n) ∧ W1 ax ∧ W1 ay ∧ W1 bx ∧ W1 by')⟩ S v) = (
(2 * n = 2 * n ∧ n ≤ 1000000 ∧ SmF g (2 * n)) ∧ (∃ (i : Nat), (i ≤ nsg cl n (wz g) ∧ ixV1 g n qa qb qc qd ax ay bx by' i = false) ∧ ((True ∧ 0 = 0) ∧ (Go.Fn.func 216 = Go.Fn.func 216 ∧ True ∧ (True ∧ 0 = 0) ∧ (True ∧ 0 = 0) ∧ True) ∧ (True ∧ 0 = 0) ∧ (↑(nsg cl n (wz g)) : Int) =
(↑(nsg cl n (wz g)) : Int) ∧ 0 = (↑i : Int) ∧ True) ∧ True ∧ (cl = cl ∧ cw = cw ∧ cv = cv ∧ k = k ∧ True ∧ x = x ∧ y = y ∧ z = z ∧ w = w ∧ (True ∧ n = n) ∧ True) ∧ True ∧ (2 * n ≤ 2 * n ∧ ∀
(i : Nat), i < 2 * n → g i = g i) ∧ True ∧ (ax = ax ∧ ay = ay ∧ bx = bx ∧ by' = by' ∧ True) ∧ True ∧ (4 = 4 ∧ 0 = 0 ∧ b = (ixV1 g n qa qb qc qd ax ay bx by' i || b) ∧ True) ∧ True ∧ (102 = 102 ∧ 0 = 0 ∧ qa = qa ∧ qb = qb ∧ qc = qc ∧ qd = qd ∧ True) ∧ True) ∧ ∀ (i : Nat), i ≤ nsg cl n (wz g) ∧ ixV1 g n qa qb qc qd ax ay bx by' i = false → (decide ((↑i :
 Int) < (↑(nsg cl n (wz g)) : Int)) = true → (2 * n = 2 * n ∧ 0 ≤ (↑i : Int) ∧ (↑i : Int) < (↑n : Int) ∧ n ≤ 1000000) ∧ true = true ∧ ((!fGt .f64 (fmin (g (2 * Int.toNat (↑i : Int) + 1)) (g (2 * nx n (Int.toNat (↑i : Int)) + 1))) qd && !fLt .f64 (fmax (g (2 * Int.toNat (↑i : Int) + 1)) (g (2 *
 nx n (Int.toNat (↑i : Int)) + 1))) qb && !fGt .f64 (fmin (g (2 * Int.toNat (↑i : Int))) (g (2 * nx n (Int.toNat (↑i : Int))))) qc && !fLt .f64
(fmax (g (2 * Int.toNat (↑i : Int))) (g (2 * nx n (Int.toNat (↑i : Int))))) qa) = true → W8 ax ay bx by' (g (2 * Int.toNat (↑i : Int))) (g (2 * Int.toNat (↑i : Int)
+ 1)) (g (2 * nx n (Int.toNat (↑i : Int)))) (g (2 * nx n (Int.toNat (↑i : Int)) + 1)) ∧ ((!!bad1 ax ay bx by' (g (2 * Int.toNat (↑i : Int))) (g (2 *
 Int.toNat (↑i : Int) + 1)) (g (2 * nx n (Int.toNat (↑i : Int)))) (g (2 * nx n (Int.toNat (↑i : Int)) + 1))) = true → True ∧ True ∧ (4 = 4 ∧ 0 = 0 ∧
(bad1 ax ay bx by' (g (2 * Int.toNat (↑i : Int))) (g (2 * Int.toNat (↑i : Int) + 1)) (g (2 * nx n (Int.toNat (↑i : Int)))) (g (2 * nx n (Int.toNat (↑i :
 Int)) + 1)) || (ixV1 g n qa qb qc qd ax ay bx by' i || b)) = (ixV1 g n qa qb qc qd ax ay bx by' (nsg cl n (wz g)) || b) ∧ True) ∧ True) ∧ ((!!bad1 ax ay
 bx by' (g (2 * Int.toNat (↑i : Int))) (g (2 * Int.toNat (↑i : Int) + 1)) (g (2 * nx n (Int.toNat (↑i : Int)))) (g (2 * nx n (Int.toNat (↑i : Int)) + 1))) = false → ∃
(i' : Nat), (i' ≤ nsg cl n (wz g) ∧ ixV1 g n qa qb qc qd ax ay bx by' i' = false) ∧ nsg cl n (wz g) - i' < nsg cl n (wz g) -
 i ∧ ((True ∧ 0 = 0) ∧ (Go.Fn.func 216 = Go.Fn.func 216 ∧ True ∧ (True ∧ 0 = 0) ∧ (True ∧ 0 = 0) ∧ True) ∧ (True ∧ 0 = 0) ∧ (↑(nsg cl n
(wz g)) : Int) = (↑(nsg cl n (wz g)) : Int) ∧ Go.IntKind.wrap .i64 ((↑i : Int) + 1) = (↑i' : Int) ∧ True) ∧ True ∧ (cl = cl ∧ cw = cw ∧ cv = cv ∧ k = k ∧ True ∧ x = x ∧ y = y ∧ z = z ∧ w =
 w ∧ (True ∧ n = n) ∧ True) ∧ True ∧ (2 * n ≤ 2 * n ∧ ∀ (i : Nat), i < 2 * n → g i = g i) ∧ True ∧ (ax = ax ∧ ay = ay ∧ bx = bx ∧ by' = by' ∧ True) ∧ True ∧ (4 = 4 ∧ 0 = 0 ∧
(bad1 ax ay bx by' (g (2 * Int.toNat (↑i : Int))) (g (2 * Int.toNat (↑i : Int) + 1)) (g (2 * nx n (Int.toNat (↑i : Int)))) (g (2 * nx n (Int.toNat (↑i :
 Int)) + 1)) || (ixV1 g n qa qb qc qd ax ay bx by' i || b)) = (ixV1 g n qa qb qc qd ax ay bx by' i' || b) ∧ True) ∧ True ∧ (102 = 102 ∧ 0 = 0 ∧ qa = qa ∧ qb = qb ∧ qc = qc ∧
 qd = qd ∧ True) ∧ True)) ∧ ((!fGt .f64 (fmin (g (2 * Int.toNat (↑i : Int) + 1)) (g (2 * nx n (Int.toNat (↑i : Int)) + 1))) qd && !fLt .f64 (fmax (g (2 * Int.toNat (↑i : Int) + 1)) (g (2 * nx n (Int.toNat (↑i : Int)) + 1))) qb && !fGt .f64 (fmin (g (2 * Int.toNat (↑i : Int))) (g (2 * nx n
(Int.toNat (↑i : Int))))) qc && !fLt .f64 (fmax (g (2 * Int.toNat (↑i : Int))) (g (2 * nx n (Int.toNat (↑i : Int))))) qa) = false → ∃ (i' : Nat), (i' ≤ nsg cl n
(wz g) ∧ ixV1 g n qa qb qc qd ax ay bx by' i' = false) ∧ nsg cl n (wz g) - i' < nsg cl n (wz g) - i ∧ ((True ∧ 0 = 0) ∧
(Go.Fn.func 216 = Go.Fn.func 216 ∧ True ∧ (True ∧ 0 = 0) ∧ (True ∧ 0 = 0) ∧ True) ∧ (True ∧ 0 = 0) ∧ (↑(nsg cl n (wz g)) : Int) =
(↑(nsg cl n (wz g)) : Int) ∧ Go.IntKind.wrap .i64 ((↑i : Int) + 1) = (↑i' : Int) ∧ True) ∧ True ∧ (cl = cl ∧ cw = cw ∧ cv = cv ∧ k = k ∧ True ∧ x = x ∧ y = y ∧ z = z ∧ w = w ∧ (True ∧ n = n) ∧ True) ∧ True
∧ (2 * n ≤ 2 * n ∧ ∀ (i : Nat), i < 2 * n → g i = g i) ∧ True ∧ (ax = ax ∧ ay = ay ∧ bx = bx ∧ by' = by' ∧ True) ∧ True ∧ (4 = 4 ∧ 0 = 0 ∧ (ixV1 g n qa qb qc qd ax ay bx by' i
|| b) = (ixV1 g n qa qb qc qd ax ay bx by' i' || b) ∧ True) ∧ True ∧ (102 = 102 ∧ 0 = 0 ∧ qa = qa ∧ qb = qb ∧ qc = qc ∧ qd = qd ∧ True) ∧ True)) ∧ (decide ((↑i : Int) < (↑(nsg cl n
(wz g)) : Int)) = false → True ∧ True ∧ (4 = 4 ∧ 0 = 0 ∧ (ixV1 g n qa qb qc qd ax ay bx by' i || b) = (ixV1 g n qa qb qc qd ax ay bx by' (nsg cl n
(wz g)) || b) ∧ True) ∧ True)) := by kernel_rfl
theorem srIX1 : ConOk Tryz.prog 172 (conR srIX1C) := by
 refine con_of_vc gssrIX1 Tryz.func172 rfl (by kernel_rfl) fun args => ?_
 unfold srIX1C
 split
 · rename_i s qa qb qc qd p1 a1
   intro o0
   show RdM.All _ (match serOf o0.c with | some (cl, cw, cv, k, x, y, z, w, p, n) => _ | none => _) _
   split
   · rename_i cl cw cv k x y z w p n hm0
     intro o1
     show RdM.All _ (match fltsFrom .f64 o1.c with | some (m, g) => _ | none => _) _
     split
     · rename_i m1 g hm1
       intro o2
       show RdM.All _ (match bx4 o2.c with | some (ax, ay, bx, by') => _ | none => _) _
       split
       · rename_i ax ay bx by' hm2
         intro o3
         show RdM.All _ (match rwOk o3 4 0 with | true => _ | false => _) _
         split
         · rename_i hrw3
           show RdM.All _ (match bxB o3.c with | some b => _ | none => _) _
           split
           · rename_i b hm3
             intro ho
             replace ho : m1 = 2 * n ∧ n ≤ 1000000 ∧ SmF g (2 * n) ∧ W1 ax ∧ W1 ay ∧ W1 bx ∧ W1 by' := ho
             obtain ⟨hsz1, ho⟩ := ho
             subst hsz1
             refine ⟨?_, _, _, (vc_srIX1 cl cw cv k x y z w p n qa qb qc qd ax ay bx by' b g).mpr ?_⟩
             · refine okFlag_mk rfl ⟨?_, ⟨trivial, serOf_spec hm0 (by simp [sgSig, fsts, nth, sameN_self]), ⟨trivial, (contR_flts hm1).1, ⟨trivial, bx4_spec hm2, ⟨trivial, obR_rw hrw3 (bxB_spec hm3), trivial⟩⟩⟩⟩⟩
               simp [eqvRL, eqvR, fkEq_self, sgSig, fsts, nth, sameN_self]
             · obtain ⟨hn, hg, h1, h2, h3, h4⟩ := ho
               have hns := nsg_le cl n (wz g)
               generalize nsg cl n (wz g) = N at hns ⊢
               simp only [true_and, and_true, eq_self, Nat.le_refl, implies_true, Int.toNat_natCast]
               refine ⟨⟨hn, hg⟩, ⟨0, by simp [ixV1, anyB]⟩, fun i hi => ⟨fun h => ?_, fun h => ?_⟩⟩
               · have h := of_decide_eq_true h
                 have hiN : i < N := by omega
                 have n1 := nx_lt (show i < n by omega)
                 have hw : IntKind.i64.wrap ((i : Int) + 1) = ((i + 1 : Nat) : Int) := by rw [wrap64 (by omega) (by omega)]; omega
                 have step : ixV1 g n qa qb qc qd ax ay bx by' (i + 1) = (ixV1 g n qa qb qc qd ax ay bx by' i || (mtF g n qa qb qc qd i && bad1 ax ay bx by' (g (2 * i)) (g (2 * i + 1)) (g (2 * nx n i)) (g (2 * nx n i + 1)))) := rfl
                 rw [hw]
                 refine ⟨⟨by omega, by omega, hn⟩, fun hm => ⟨⟨⟨h1, h2, h3, h4⟩, hg _ (by omega), hg _ (by omega), hg _ (by omega), hg _ (by omega)⟩, fun ho => ?_, fun ho => ?_⟩, fun hm => ?_⟩
                 · have ho' : bad1 ax ay bx by' (g (2 * i)) (g (2 * i + 1)) (g (2 * nx n i)) (g (2 * nx n i + 1)) = true := by simpa using ho
                   have hm' : mtF g n qa qb qc qd i = true := hm
                   have s2 : ixV1 g n qa qb qc qd ax ay bx by' N = true := anyB_of hiN (by rw [hm', ho']; rfl)
                   rw [ho', s2]
                   simp
                 · have ho' : bad1 ax ay bx by' (g (2 * i)) (g (2 * i + 1)) (g (2 * nx n i)) (g (2 * nx n i + 1)) = false := by simpa using ho
                   have s1 : ixV1 g n qa qb qc qd ax ay bx by' (i + 1) = false := by rw [step, hi.2, ho', Bool.and_false]; rfl
                   exact ⟨i + 1, ⟨by omega, s1⟩, by omega, rfl, by rw [s1, ho', hi.2]; simp⟩
                 · have hm' : mtF g n qa qb qc qd i = false := hm
                   have s1 : ixV1 g n qa qb qc qd ax ay bx by' (i + 1) = false := by rw [step, hi.2, hm', Bool.false_and]; rfl
                   exact ⟨i + 1, ⟨by omega, s1⟩, by omega, rfl, by rw [s1, hi.2]⟩
               · have h := of_decide_eq_false h
                 have : i = N := by omega
                 subst this
                 simp
           · trivial
         · trivial
       · trivial
     · trivial
   · trivial
 · trivial
noncomputable def GssrIX2 : Ctx := ⟨⟨tys, []⟩, [(111, conR sNumSC), (112, conR sSegC), (113, pureCon sRectF), (175, pureCon rMeetF), (217, conR ix2C)]⟩
theorem gssrIX2 : CtxOk Tryz.prog GssrIX2 := ⟨⟨tysOk, FlatsOk.nil⟩, GamOk.cons sNumS (GamOk.cons sSeg (GamOk.cons (.pure sRect) (GamOk.cons (.pure rMeet) (GamOk.cons ix2 GamOk.nil)))), by kernel_rfl⟩
noncomputable def LsrIX2 (cl cw cv : Bool) (k : Int) (x y z w n : Nat) (g : Nat → Nat) (qa qb qc qd : Nat) (ax ay bx by' : Nat) (b : Bool) : Fam := ⟨Nat, fun i =>
 ⟨69, [(0, .ptr 0 0), (2, .fn (.func 217) [] [.ptr 2 0, .ptr 3 0]), (4, .ptr 4 0), (7, .int .i64 (nsg cl n (wz g))), (8, .int .i64 i)], [(0, ⟨false, 150, serC cl cw cv k x y z w 1 n, 0⟩), (1, ⟨false, 100, .flts .f64 (2 * n) g, 0⟩), (2, ⟨false, 111, bx4C ax ay bx by', 0⟩), (3, ⟨true, 4, bxBC (ixV2 g n qa qb qc qd ax ay bx by' i || b), 0⟩), (4, ⟨true, 102, .cells (qC qa qb qc qd), 0⟩)], 5⟩, fun i => i ≤ nsg cl n (wz g) ∧ ixV2 g n qa qb qc qd ax ay bx by' i = false, fun i => nsg cl n (wz g) - i⟩
noncomputable def srIX2C : List SV → RdM
 | [.ptr s 0, .agg [.flt .f64 qa, .flt .f64 qb, .flt .f64 qc, .flt .f64 qd], .fn (.func 217) [] [.ptr p1 0, .ptr a1 0]] => .read s fun o0 => (match serOf o0.c with
   | some (cl, cw, cv, k, x, y, z, w, p, n) => .read p fun o1 => (match fltsFrom .f64 o1.c with
   | some (m1, g) => .read p1 fun o2 => (match bx4 o2.c with
   | some (ax, ay, bx, by') => .read a1 fun o3 => (match rwOk o3 4 0 with
   | true => (match bxB o3.c with
   | some b => .ret ⟨[.ptr 0 0, .agg [.flt .f64 qa, .flt .f64 qb, .flt .f64 qc, .flt .f64 qd], .fn (.func 217) [] [.ptr 2 0, .ptr 3 0]], [(0, ⟨false, 150, serC cl cw cv k x y z w 1 n, 0⟩), (1, ⟨false, 100, .flts .f64 m1 g, 0⟩), (2, ⟨false, 111, bx4C ax ay bx by', 0⟩), (3, ⟨true, 4, bxBC b, 0⟩)], .tup [], [(3, ⟨true, 4, bxBC (ixV2 g n qa qb qc qd ax ay bx by' (nsg cl n (wz g)) || b), 0⟩)], [], some (m1 = 2 * n ∧ n ≤ 1000000 ∧ SmF g (2 * n) ∧ W1 ax ∧ W1 ay ∧ W1 bx ∧ W1 by')⟩
   | none => .fail)
   | false => .fail)
   | none => .fail)
   | none => .fail)
   | none => .fail)
 | _ => .fail
theorem vc_srIX2 (cl cw cv : Bool) (k : Int) (x y z w : Nat) (_ : Nm) (n : Nat) (qa qb qc qd : Nat) (ax ay bx by' : Nat) (b : Bool)  (g : Nat → Nat) : runA GssrIX2 4 [(5, LsrIX2 cl cw cv k x y z w n g qa qb qc qd ax ay bx by' b)] [] (codeOf Tryz.f172) (init Tryz.f172.ntmps [.ptr 0 0, .agg [.flt .f64 qa, .flt .f64 qb, .flt .f64 qc, .flt .f64 qd], .fn (.func 217) [] [.ptr 2 0, .ptr 3 0]] [(0, ⟨false, 150, serC cl cw cv k x y z w 1 n, 0⟩), (1, ⟨false, 100, .flts .f64 (2 * n) g, 0⟩), (2, ⟨false, 111, bx4C ax ay bx by', 0⟩), (3, ⟨true, 4, bxBC b, 0⟩)] 4) (endK GssrIX2.E.T Tryz.f172.results.toList fun S v => postP 4 ⟨[.ptr 0 0, .agg [.flt .f64 qa, .flt .f64 qb, .flt .f64 qc, .flt .f64 qd], .fn (.func 217) [] [.ptr 2 0, .ptr 3 0]], [(0, ⟨false, 150, serC cl cw cv k x y z w 1 n, 0⟩), (1, ⟨false, 100, .flts .f64 (2 * n) g, 0⟩), (2, ⟨false, 111, bx4C ax ay bx by', 0⟩), (3, ⟨true, 4, bxBC b, 0⟩)], .tup [], [(3, ⟨true, 4, bxBC (ixV2 g n qa qb qc qd ax ay bx by' (nsg cl n (wz g)) || b), 0⟩)], [], some (2 * n = 2 * n ∧ n ≤ 1000000 ∧ SmF g (2 * n) ∧ W1 ax ∧ W1 ay ∧ W1 bx ∧ W1 by')⟩ S v) = (
(2 * n = 2 * n ∧ n ≤ 1000000 ∧ SmF g (2 * n)) ∧ (∃ (i : Nat), (i ≤ nsg cl n (wz g) ∧ ixV2 g n qa qb qc qd ax ay bx by' i = false) ∧ ((True ∧ 0 = 0) ∧ (Go.Fn.func 217 = Go.Fn.func 217 ∧ True ∧ (True ∧ 0 = 0) ∧ (True ∧ 0 = 0) ∧ True) ∧ (True ∧ 0 = 0) ∧ (↑(nsg cl n (wz g)) : Int) =
(↑(nsg cl n (wz g)) : Int) ∧ 0 = (↑i : Int) ∧ True) ∧ True ∧ (cl = cl ∧ cw = cw ∧ cv = cv ∧ k = k ∧ True ∧ x = x ∧ y = y ∧ z = z ∧ w = w ∧ (True ∧ n = n) ∧ True) ∧ True ∧ (2 * n ≤ 2 * n ∧ ∀
(i : Nat), i < 2 * n → g i = g i) ∧ True ∧ (ax = ax ∧ ay = ay ∧ bx = bx ∧ by' = by' ∧ True) ∧ True ∧ (4 = 4 ∧ 0 = 0 ∧ b = (ixV2 g n qa qb qc qd ax ay bx by' i || b) ∧ True) ∧ True ∧ (102 = 102 ∧ 0 = 0 ∧ qa = qa ∧ qb = qb ∧ qc = qc ∧ qd = qd ∧ True) ∧ True) ∧ ∀ (i : Nat), i ≤ nsg cl n (wz g) ∧ ixV2 g n qa qb qc qd ax ay bx by' i = false → (decide ((↑i :
 Int) < (↑(nsg cl n (wz g)) : Int)) = true → (2 * n = 2 * n ∧ 0 ≤ (↑i : Int) ∧ (↑i : Int) < (↑n : Int) ∧ n ≤ 1000000) ∧ true = true ∧ ((!fGt .f64 (fmin (g (2 * Int.toNat (↑i : Int) + 1)) (g (2 * nx n (Int.toNat (↑i : Int)) + 1))) qd && !fLt .f64 (fmax (g (2 * Int.toNat (↑i : Int) + 1)) (g (2 *
 nx n (Int.toNat (↑i : Int)) + 1))) qb && !fGt .f64 (fmin (g (2 * Int.toNat (↑i : Int))) (g (2 * nx n (Int.toNat (↑i : Int))))) qc && !fLt .f64
(fmax (g (2 * Int.toNat (↑i : Int))) (g (2 * nx n (Int.toNat (↑i : Int))))) qa) = true → W8 ax ay bx by' (g (2 * Int.toNat (↑i : Int))) (g (2 * Int.toNat (↑i : Int)
+ 1)) (g (2 * nx n (Int.toNat (↑i : Int)))) (g (2 * nx n (Int.toNat (↑i : Int)) + 1)) ∧ ((!!bad2 ax ay bx by' (g (2 * Int.toNat (↑i : Int))) (g (2 *
 Int.toNat (↑i : Int) + 1)) (g (2 * nx n (Int.toNat (↑i : Int)))) (g (2 * nx n (Int.toNat (↑i : Int)) + 1))) = true → True ∧ True ∧ (4 = 4 ∧ 0 = 0 ∧
(bad2 ax ay bx by' (g (2 * Int.toNat (↑i : Int))) (g (2 * Int.toNat (↑i : Int) + 1)) (g (2 * nx n (Int.toNat (↑i : Int)))) (g (2 * nx n (Int.toNat (↑i :
 Int)) + 1)) || (ixV2 g n qa qb qc qd ax ay bx by' i || b)) = (ixV2 g n qa qb qc qd ax ay bx by' (nsg cl n (wz g)) || b) ∧ True) ∧ True) ∧ ((!!bad2 ax ay
 bx by' (g (2 * Int.toNat (↑i : Int))) (g (2 * Int.toNat (↑i : Int) + 1)) (g (2 * nx n (Int.toNat (↑i : Int)))) (g (2 * nx n (Int.toNat (↑i : Int)) + 1))) = false → ∃
(i' : Nat), (i' ≤ nsg cl n (wz g) ∧ ixV2 g n qa qb qc qd ax ay bx by' i' = false) ∧ nsg cl n (wz g) - i' < nsg cl n (wz g) -
 i ∧ ((True ∧ 0 = 0) ∧ (Go.Fn.func 217 = Go.Fn.func 217 ∧ True ∧ (True ∧ 0 = 0) ∧ (True ∧ 0 = 0) ∧ True) ∧ (True ∧ 0 = 0) ∧ (↑(nsg cl n
(wz g)) : Int) = (↑(nsg cl n (wz g)) : Int) ∧ Go.IntKind.wrap .i64 ((↑i : Int) + 1) = (↑i' : Int) ∧ True) ∧ True ∧ (cl = cl ∧ cw = cw ∧ cv = cv ∧ k = k ∧ True ∧ x = x ∧ y = y ∧ z = z ∧ w =
 w ∧ (True ∧ n = n) ∧ True) ∧ True ∧ (2 * n ≤ 2 * n ∧ ∀ (i : Nat), i < 2 * n → g i = g i) ∧ True ∧ (ax = ax ∧ ay = ay ∧ bx = bx ∧ by' = by' ∧ True) ∧ True ∧ (4 = 4 ∧ 0 = 0 ∧
(bad2 ax ay bx by' (g (2 * Int.toNat (↑i : Int))) (g (2 * Int.toNat (↑i : Int) + 1)) (g (2 * nx n (Int.toNat (↑i : Int)))) (g (2 * nx n (Int.toNat (↑i :
 Int)) + 1)) || (ixV2 g n qa qb qc qd ax ay bx by' i || b)) = (ixV2 g n qa qb qc qd ax ay bx by' i' || b) ∧ True) ∧ True ∧ (102 = 102 ∧ 0 = 0 ∧ qa = qa ∧ qb = qb ∧ qc = qc ∧
 qd = qd ∧ True) ∧ True)) ∧ ((!fGt .f64 (fmin (g (2 * Int.toNat (↑i : Int) + 1)) (g (2 * nx n (Int.toNat (↑i : Int)) + 1))) qd && !fLt .f64 (fmax (g (2 * Int.toNat (↑i : Int) + 1)) (g (2 * nx n (Int.toNat (↑i : Int)) + 1))) qb && !fGt .f64 (fmin (g (2 * Int.toNat (↑i : Int))) (g (2 * nx n
(Int.toNat (↑i : Int))))) qc && !fLt .f64 (fmax (g (2 * Int.toNat (↑i : Int))) (g (2 * nx n (Int.toNat (↑i : Int))))) qa) = false → ∃ (i' : Nat), (i' ≤ nsg cl n
(wz g) ∧ ixV2 g n qa qb qc qd ax ay bx by' i' = false) ∧ nsg cl n (wz g) - i' < nsg cl n (wz g) - i ∧ ((True ∧ 0 = 0) ∧
(Go.Fn.func 217 = Go.Fn.func 217 ∧ True ∧ (True ∧ 0 = 0) ∧ (True ∧ 0 = 0) ∧ True) ∧ (True ∧ 0 = 0) ∧ (↑(nsg cl n (wz g)) : Int) =
(↑(nsg cl n (wz g)) : Int) ∧ Go.IntKind.wrap .i64 ((↑i : Int) + 1) = (↑i' : Int) ∧ True) ∧ True ∧ (cl = cl ∧ cw = cw ∧ cv = cv ∧ k = k ∧ True ∧ x = x ∧ y = y ∧ z = z ∧ w = w ∧ (True ∧ n = n) ∧ True) ∧ True
∧ (2 * n ≤ 2 * n ∧ ∀ (i : Nat), i < 2 * n → g i = g i) ∧ True ∧ (ax = ax ∧ ay = ay ∧ bx = bx ∧ by' = by' ∧ True) ∧ True ∧ (4 = 4 ∧ 0 = 0 ∧ (ixV2 g n qa qb qc qd ax ay bx by' i
|| b) = (ixV2 g n qa qb qc qd ax ay bx by' i' || b) ∧ True) ∧ True ∧ (102 = 102 ∧ 0 = 0 ∧ qa = qa ∧ qb = qb ∧ qc = qc ∧ qd = qd ∧ True) ∧ True)) ∧ (decide ((↑i : Int) < (↑(nsg cl n
(wz g)) : Int)) = false → True ∧ True ∧ (4 = 4 ∧ 0 = 0 ∧ (ixV2 g n qa qb qc qd ax ay bx by' i || b) = (ixV2 g n qa qb qc qd ax ay bx by' (nsg cl n
(wz g)) || b) ∧ True) ∧ True)) := by kernel_rfl
theorem srIX2 : ConOk Tryz.prog 172 (conR srIX2C) := by
 refine con_of_vc gssrIX2 Tryz.func172 rfl (by kernel_rfl) fun args => ?_
 unfold srIX2C
 split
 · rename_i s qa qb qc qd p1 a1
   intro o0
   show RdM.All _ (match serOf o0.c with | some (cl, cw, cv, k, x, y, z, w, p, n) => _ | none => _) _
   split
   · rename_i cl cw cv k x y z w p n hm0
     intro o1
     show RdM.All _ (match fltsFrom .f64 o1.c with | some (m, g) => _ | none => _) _
     split
     · rename_i m1 g hm1
       intro o2
       show RdM.All _ (match bx4 o2.c with | some (ax, ay, bx, by') => _ | none => _) _
       split
       · rename_i ax ay bx by' hm2
         intro o3
         show RdM.All _ (match rwOk o3 4 0 with | true => _ | false => _) _
         split
         · rename_i hrw3
           show RdM.All _ (match bxB o3.c with | some b => _ | none => _) _
           split
           · rename_i b hm3
             intro ho
             replace ho : m1 = 2 * n ∧ n ≤ 1000000 ∧ SmF g (2 * n) ∧ W1 ax ∧ W1 ay ∧ W1 bx ∧ W1 by' := ho
             obtain ⟨hsz1, ho⟩ := ho
             subst hsz1
             refine ⟨?_, _, _, (vc_srIX2 cl cw cv k x y z w p n qa qb qc qd ax ay bx by' b g).mpr ?_⟩
             · refine okFlag_mk rfl ⟨?_, ⟨trivial, serOf_spec hm0 (by simp [sgSig, fsts, nth, sameN_self]), ⟨trivial, (contR_flts hm1).1, ⟨trivial, bx4_spec hm2, ⟨trivial, obR_rw hrw3 (bxB_spec hm3), trivial⟩⟩⟩⟩⟩
               simp [eqvRL, eqvR, fkEq_self, sgSig, fsts, nth, sameN_self]
             · obtain ⟨hn, hg, h1, h2, h3, h4⟩ := ho
               have hns := nsg_le cl n (wz g)
               generalize nsg cl n (wz g) = N at hns ⊢
               simp only [true_and, and_true, eq_self, Nat.le_refl, implies_true, Int.toNat_natCast]
               refine ⟨⟨hn, hg⟩, ⟨0, by simp [ixV2, anyB]⟩, fun i hi => ⟨fun h => ?_, fun h => ?_⟩⟩
               · have h := of_decide_eq_true h
                 have hiN : i < N := by omega
                 have n1 := nx_lt (show i < n by omega)
                 have hw : IntKind.i64.wrap ((i : Int) + 1) = ((i + 1 : Nat) : Int) := by rw [wrap64 (by omega) (by omega)]; omega
                 have step : ixV2 g n qa qb qc qd ax ay bx by' (i + 1) = (ixV2 g n qa qb qc qd ax ay bx by' i || (mtF g n qa qb qc qd i && bad2 ax ay bx by' (g (2 * i)) (g (2 * i + 1)) (g (2 * nx n i)) (g (2 * nx n i + 1)))) := rfl
                 rw [hw]
                 refine ⟨⟨by omega, by omega, hn⟩, fun hm => ⟨⟨⟨h1, h2, h3, h4⟩, hg _ (by omega), hg _ (by omega), hg _ (by omega), hg _ (by omega)⟩, fun ho => ?_, fun ho => ?_⟩, fun hm => ?_⟩
                 · have ho' : bad2 ax ay bx by' (g (2 * i)) (g (2 * i + 1)) (g (2 * nx n i)) (g (2 * nx n i + 1)) = true := by simpa using ho
                   have hm' : mtF g n qa qb qc qd i = true := hm
                   have s2 : ixV2 g n qa qb qc qd ax ay bx by' N = true := anyB_of hiN (by rw [hm', ho']; rfl)
                   rw [ho', s2]
                   simp
                 · have ho' : bad2 ax ay bx by' (g (2 * i)) (g (2 * i + 1)) (g (2 * nx n i)) (g (2 * nx n i + 1)) = false := by simpa using ho
                   have s1 : ixV2 g n qa qb qc qd ax ay bx by' (i + 1) = false := by rw [step, hi.2, ho', Bool.and_false]; rfl
                   exact ⟨i + 1, ⟨by omega, s1⟩, by omega, rfl, by rw [s1, ho', hi.2]; simp⟩
                 · have hm' : mtF g n qa qb qc qd i = false := hm
                   have s1 : ixV2 g n qa qb qc qd ax ay bx by' (i + 1) = false := by rw [step, hi.2, hm', Bool.false_and]; rfl
                   exact ⟨i + 1, ⟨by omega, s1⟩, by omega, rfl, by rw [s1, hi.2]⟩
               · have h := of_decide_eq_false h
                 have : i = N := by omega
                 subst this
                 simp
           · trivial
         · trivial
       · trivial
     · trivial
   · trivial
 · trivial
noncomputable def GssrIX3 : Ctx := ⟨⟨tys, []⟩, [(111, conR sNumSC), (112, conR sSegC), (113, pureCon sRectF), (175, pureCon rMeetF), (218, conR ix3C)]⟩
theorem gssrIX3 : CtxOk Tryz.prog GssrIX3 := ⟨⟨tysOk, FlatsOk.nil⟩, GamOk.cons sNumS (GamOk.cons sSeg (GamOk.cons (.pure sRect) (GamOk.cons (.pure rMeet) (GamOk.cons ix3 GamOk.nil)))), by kernel_rfl⟩
noncomputable def LsrIX3 (cl cw cv : Bool) (k : Int) (x y z w n : Nat) (g : Nat → Nat) (qa qb qc qd : Nat) (ax ay bx by' : Nat) (b : Bool) : Fam := ⟨Nat, fun i =>
 ⟨69, [(0, .ptr 0 0), (2, .fn (.func 218) [] [.ptr 2 0, .ptr 3 0]), (4, .ptr 4 0), (7, .int .i64 (nsg cl n (wz g))), (8, .int .i64 i)], [(0, ⟨false, 150, serC cl cw cv k x y z w 1 n, 0⟩), (1, ⟨false, 100, .flts .f64 (2 * n) g, 0⟩), (2, ⟨false, 111, bx4C ax ay bx by', 0⟩), (3, ⟨true, 4, bxBC (ixV3 g n qa qb qc qd ax ay bx by' i || b), 0⟩), (4, ⟨true, 102, .cells (qC qa qb qc qd), 0⟩)], 5⟩, fun i => i ≤ nsg cl n (wz g) ∧ ixV3 g n qa qb qc qd ax ay bx by' i = false, fun i => nsg cl n (wz g) - i⟩
noncomputable def srIX3C : List SV → RdM
 | [.ptr s 0, .agg [.flt .f64 qa, .flt .f64 qb, .flt .f64 qc, .flt .f64 qd], .fn (.func 218) [] [.ptr p1 0, .ptr a1 0]] => .read s fun o0 => (match serOf o0.c with
   | some (cl, cw, cv, k, x, y, z, w, p, n) => .read p fun o1 => (match fltsFrom .f64 o1.c with
   | some (m1, g) => .read p1 fun o2 => (match bx4 o2.c with
   | some (ax, ay, bx, by') => .read a1 fun o3 => (match rwOk o3 4 0 with
   | true => (match bxB o3.c with
   | some b => .ret ⟨[.ptr 0 0, .agg [.flt .f64 qa, .flt .f64 qb, .flt .f64 qc, .flt .f64 qd], .fn (.func 218) [] [.ptr 2 0, .ptr 3 0]], [(0, ⟨false, 150, serC cl cw cv k x y z w 1 n, 0⟩), (1, ⟨false, 100, .flts .f64 m1 g, 0⟩), (2, ⟨false, 111, bx4C ax ay bx by', 0⟩), (3, ⟨true, 4, bxBC b, 0⟩)], .tup [], [(3, ⟨true, 4, bxBC (ixV3 g n qa qb qc qd ax ay bx by' (nsg cl n (wz g)) || b), 0⟩)], [], some (m1 = 2 * n ∧ n ≤ 1000000 ∧ SmF g (2 * n) ∧ W1 ax ∧ W1 ay ∧ W1 bx ∧ W1 by')⟩
   | none => .fail)
   | false => .fail)
   | none => .fail)
   | none => .fail)
   | none => .fail)
 | _ => .fail
theorem vc_srIX3 (cl cw cv : Bool) (k : Int) (x y z w : Nat) (_ : Nm) (n : Nat) (qa qb qc qd : Nat) (ax ay bx by' : Nat) (b : Bool)  (g : Nat → Nat) : runA GssrIX3 4 [(5, LsrIX3 cl cw cv k x y z w n g qa qb qc qd ax ay bx by' b)] [] (codeOf Tryz.f172) (init Tryz.f172.ntmps [.ptr 0 0, .agg [.flt .f64 qa, .flt .f64 qb, .flt .f64 qc, .flt .f64 qd], .fn (.func 218) [] [.ptr 2 0, .ptr 3 0]] [(0, ⟨false, 150, serC cl cw cv k x y z w 1 n, 0⟩), (1, ⟨false, 100, .flts .f64 (2 * n) g, 0⟩), (2, ⟨false, 111, bx4C ax ay bx by', 0⟩), (3, ⟨true, 4, bxBC b, 0⟩)] 4) (endK GssrIX3.E.T Tryz.f172.results.toList fun S v => postP 4 ⟨[.ptr 0 0, .agg [.flt .f64 qa, .flt .f64 qb, .flt .f64 qc, .flt .f64 qd], .fn (.func 218) [] [.ptr 2 0, .ptr 3 0]], [(0, ⟨false, 150, serC cl cw cv k x y z w 1 n, 0⟩), (1, ⟨false, 100, .flts .f64 (2 * n) g, 0⟩), (2, ⟨false, 111, bx4C ax ay bx by', 0⟩), (3, ⟨true, 4, bxBC b, 0⟩)], .tup [], [(3, ⟨true, 4, bxBC (ixV3 g n qa qb qc qd ax ay bx by' (nsg cl n (wz g)) || b), 0⟩)], [], some (2 * n = 2 * n ∧ n ≤ 1000000 ∧ SmF g (2 * n) ∧ W1 ax ∧ W1 ay ∧ W1 bx ∧ W1 by')⟩ S v) = (
(2 * n = 2 * n ∧ n ≤ 1000000 ∧ SmF g (2 * n)) ∧ (∃ (i : Nat), (i ≤ nsg cl n (wz g) ∧ ixV3 g n qa qb qc qd ax ay bx by' i = false) ∧ ((True ∧ 0 = 0) ∧ (Go.Fn.func 218 = Go.Fn.func 218 ∧ True ∧ (True ∧ 0 = 0) ∧ (True ∧ 0 = 0) ∧ True) ∧ (True ∧ 0 = 0) ∧ (↑(nsg cl n (wz g)) : Int) =
(↑(nsg cl n (wz g)) : Int) ∧ 0 = (↑i : Int) ∧ True) ∧ True ∧ (cl = cl ∧ cw = cw ∧ cv = cv ∧ k = k ∧ True ∧ x = x ∧ y = y ∧ z = z ∧ w = w ∧ (True ∧ n = n) ∧ True) ∧ True ∧ (2 * n ≤ 2 * n ∧ ∀
(i : Nat), i < 2 * n → g i = g i) ∧ True ∧ (ax = ax ∧ ay = ay ∧ bx = bx ∧ by' = by' ∧ True) ∧ True ∧ (4 = 4 ∧ 0 = 0 ∧ b = (ixV3 g n qa qb qc qd ax ay bx by' i || b) ∧ True) ∧ True ∧ (102 = 102 ∧ 0 = 0 ∧ qa = qa ∧ qb = qb ∧ qc = qc ∧ qd = qd ∧ True) ∧ True) ∧ ∀ (i : Nat), i ≤ nsg cl n (wz g) ∧ ixV3 g n qa qb qc qd ax ay bx by' i = false → (decide ((↑i :
 Int) < (↑(nsg cl n (wz g)) : Int)) = true → (2 * n = 2 * n ∧ 0 ≤ (↑i : Int) ∧ (↑i : Int) < (↑n : Int) ∧ n ≤ 1000000) ∧ true = true ∧ ((!fGt .f64 (fmin (g (2 * Int.toNat (↑i : Int) + 1)) (g (2 * nx n (Int.toNat (↑i : Int)) + 1))) qd && !fLt .f64 (fmax (g (2 * Int.toNat (↑i : Int) + 1)) (g (2 *
 nx n (Int.toNat (↑i : Int)) + 1))) qb && !fGt .f64 (fmin (g (2 * Int.toNat (↑i : Int))) (g (2 * nx n (Int.toNat (↑i : Int))))) qc && !fLt .f64
(fmax (g (2 * Int.toNat (↑i : Int))) (g (2 * nx n (Int.toNat (↑i : Int))))) qa) = true → W8 ax ay bx by' (g (2 * Int.toNat (↑i : Int))) (g (2 * Int.toNat (↑i : Int)
+ 1)) (g (2 * nx n (Int.toNat (↑i : Int)))) (g (2 * nx n (Int.toNat (↑i : Int)) + 1)) ∧ ((!!bad3 ax ay bx by' (g (2 * Int.toNat (↑i : Int))) (g (2 *
 Int.toNat (↑i : Int) + 1)) (g (2 * nx n (Int.toNat (↑i : Int)))) (g (2 * nx n (Int.toNat (↑i : Int)) + 1))) = true → True ∧ True ∧ (4 = 4 ∧ 0 = 0 ∧
(bad3 ax ay bx by' (g (2 * Int.toNat (↑i : Int))) (g (2 * Int.toNat (↑i : Int) + 1)) (g (2 * nx n (Int.toNat (↑i : Int)))) (g (2 * nx n (Int.toNat (↑i :
 Int)) + 1)) || (ixV3 g n qa qb qc qd ax ay bx by' i || b)) = (ixV3 g n qa qb qc qd ax ay bx by' (nsg cl n (wz g)) || b) ∧ True) ∧ True) ∧ ((!!bad3 ax ay
 bx by' (g (2 * Int.toNat (↑i : Int))) (g (2 * Int.toNat (↑i : Int) + 1)) (g (2 * nx n (Int.toNat (↑i : Int)))) (g (2 * nx n (Int.toNat (↑i : Int)) + 1))) = false → ∃
(i' : Nat), (i' ≤ nsg cl n (wz g) ∧ ixV3 g n qa qb qc qd ax ay bx by' i' = false) ∧ nsg cl n (wz g) - i' < nsg cl n (wz g) -
 i ∧ ((True ∧ 0 = 0) ∧ (Go.Fn.func 218 = Go.Fn.func 218 ∧ True ∧ (True ∧ 0 = 0) ∧ (True ∧ 0 = 0) ∧ True) ∧ (True ∧ 0 = 0) ∧ (↑(nsg cl n
(wz g)) : Int) = (↑(nsg cl n (wz g)) : Int) ∧ Go.IntKind.wrap .i64 ((↑i : Int) + 1) = (↑i' : Int) ∧ True) ∧ True ∧ (cl = cl ∧ cw = cw ∧ cv = cv ∧ k = k ∧ True ∧ x = x ∧ y = y ∧ z = z ∧ w =
 w ∧ (True ∧ n = n) ∧ True) ∧ True ∧ (2 * n ≤ 2 * n ∧ ∀ (i : Nat), i < 2 * n → g i = g i) ∧ True ∧ (ax = ax ∧ ay = ay ∧ bx = bx ∧ by' = by' ∧ True) ∧ True ∧ (4 = 4 ∧ 0 = 0 ∧
(bad3 ax ay bx by' (g (2 * Int.toNat (↑i : Int))) (g (2 * Int.toNat (↑i : Int) + 1)) (g (2 * nx n (Int.toNat (↑i : Int)))) (g (2 * nx n (Int.toNat (↑i :
 Int)) + 1)) || (ixV3 g n qa qb qc qd ax ay bx by' i || b)) = (ixV3 g n qa qb qc qd ax ay bx by' i' || b) ∧ True) ∧ True ∧ (102 = 102 ∧ 0 = 0 ∧ qa = qa ∧ qb = qb ∧ qc = qc ∧
 qd = qd ∧ True) ∧ True)) ∧ ((!fGt .f64 (fmin (g (2 * Int.toNat (↑i : Int) + 1)) (g (2 * nx n (Int.toNat (↑i : Int)) + 1))) qd && !fLt .f64 (fmax (g (2 * Int.toNat (↑i : Int) + 1)) (g (2 * nx n (Int.toNat (↑i : Int)) + 1))) qb && !fGt .f64 (fmin (g (2 * Int.toNat (↑i : Int))) (g (2 * nx n
(Int.toNat (↑i : Int))))) qc && !fLt .f64 (fmax (g (2 * Int.toNat (↑i : Int))) (g (2 * nx n (Int.toNat (↑i : Int))))) qa) = false → ∃ (i' : Nat), (i' ≤ nsg cl n
(wz g) ∧ ixV3 g n qa qb qc qd ax ay bx by' i' = false) ∧ nsg cl n (wz g) - i' < nsg cl n (wz g) - i ∧ ((True ∧ 0 = 0) ∧
(Go.Fn.func 218 = Go.Fn.func 218 ∧ True ∧ (True ∧ 0 = 0) ∧ (True ∧ 0 = 0) ∧ True) ∧ (True ∧ 0 = 0) ∧ (↑(nsg cl n (wz g)) : Int) =
(↑(nsg cl n (wz g)) : Int) ∧ Go.IntKind.wrap .i64 ((↑i : Int) + 1) = (↑i' : Int) ∧ True) ∧ True ∧ (cl = cl ∧ cw = cw ∧ cv = cv ∧ k = k ∧ True ∧ x = x ∧ y = y ∧ z = z ∧ w = w ∧ (True ∧ n = n) ∧ True) ∧ True
∧ (2 * n ≤ 2 * n ∧ ∀ (i : Nat), i < 2 * n → g i = g i) ∧ True ∧ (ax = ax ∧ ay = ay ∧ bx = bx ∧ by' = by' ∧ True) ∧ True ∧ (4 = 4 ∧ 0 = 0 ∧ (ixV3 g n qa qb qc qd ax ay bx by' i
|| b) = (ixV3 g n qa qb qc qd ax ay bx by' i' || b) ∧ True) ∧ True ∧ (102 = 102 ∧ 0 = 0 ∧ qa = qa ∧ qb = qb ∧ qc = qc ∧ qd = qd ∧ True) ∧ True)) ∧ (decide ((↑i : Int) < (↑(nsg cl n
(wz g)) : Int)) = false → True ∧ True ∧ (4 = 4 ∧ 0 = 0 ∧ (ixV3 g n qa qb qc qd ax ay bx by' i || b) = (ixV3 g n qa qb qc qd ax ay bx by' (nsg cl n
(wz g)) || b) ∧ True) ∧ True)) := by kernel_rfl
theorem srIX3 : ConOk Tryz.prog 172 (conR srIX3C) := by
 refine con_of_vc gssrIX3 Tryz.func172 rfl (by kernel_rfl) fun args => ?_
 unfold srIX3C
 split
 · rename_i s qa qb qc qd p1 a1
   intro o0
   show RdM.All _ (match serOf o0.c with | some (cl, cw, cv, k, x, y, z, w, p, n) => _ | none => _) _
   split
   · rename_i cl cw cv k x y z w p n hm0
     intro o1
     show RdM.All _ (match fltsFrom .f64 o1.c with | some (m, g) => _ | none => _) _
     split
     · rename_i m1 g hm1
       intro o2
       show RdM.All _ (match bx4 o2.c with | some (ax, ay, bx, by') => _ | none => _) _
       split
       · rename_i ax ay bx by' hm2
         intro o3
         show RdM.All _ (match rwOk o3 4 0 with | true => _ | false => _) _
         split
         · rename_i hrw3
           show RdM.All _ (match bxB o3.c with | some b => _ | none => _) _
           split
           · rename_i b hm3
             intro ho
             replace ho : m1 = 2 * n ∧ n ≤ 1000000 ∧ SmF g (2 * n) ∧ W1 ax ∧ W1 ay ∧ W1 bx ∧ W1 by' := ho
             obtain ⟨hsz1, ho⟩ := ho
             subst hsz1
             refine ⟨?_, _, _, (vc_srIX3 cl cw cv k x y z w p n qa qb qc qd ax ay bx by' b g).mpr ?_⟩
             · refine okFlag_mk rfl ⟨?_, ⟨trivial, serOf_spec hm0 (by simp [sgSig, fsts, nth, sameN_self]), ⟨trivial, (contR_flts hm1).1, ⟨trivial, bx4_spec hm2, ⟨trivial, obR_rw hrw3 (bxB_spec hm3), trivial⟩⟩⟩⟩⟩
               simp [eqvRL, eqvR, fkEq_self, sgSig, fsts, nth, sameN_self]
             · obtain ⟨hn, hg, h1, h2, h3, h4⟩ := ho
               have hns := nsg_le cl n (wz g)
               generalize nsg cl n (wz g) = N at hns ⊢
               simp only [true_and, and_true, eq_self, Nat.le_refl, implies_true, Int.toNat_natCast]
               refine ⟨⟨hn, hg⟩, ⟨0, by simp [ixV3, anyB]⟩, fun i hi => ⟨fun h => ?_, fun h => ?_⟩⟩
               · have h := of_decide_eq_true h
                 have hiN : i < N := by omega
                 have n1 := nx_lt (show i < n by omega)
                 have hw : IntKind.i64.wrap ((i : Int) + 1) = ((i + 1 : Nat) : Int) := by rw [wrap64 (by omega) (by omega)]; omega
                 have step : ixV3 g n qa qb qc qd ax ay bx by' (i + 1) = (ixV3 g n qa qb qc qd ax ay bx by' i || (mtF g n qa qb qc qd i && bad3 ax ay bx by' (g (2 * i)) (g (2 * i + 1)) (g (2 * nx n i)) (g (2 * nx n i + 1)))) := rfl
                 rw [hw]
                 refine ⟨⟨by omega, by omega, hn⟩, fun hm => ⟨⟨⟨h1, h2, h3, h4⟩, hg _ (by omega), hg _ (by omega), hg _ (by omega), hg _ (by omega)⟩, fun ho => ?_, fun ho => ?_⟩, fun hm => ?_⟩
                 · have ho' : bad3 ax ay bx by' (g (2 * i)) (g (2 * i + 1)) (g (2 * nx n i)) (g (2 * nx n i + 1)) = true := by simpa using ho
                   have hm' : mtF g n qa qb qc qd i = true := hm
                   have s2 : ixV3 g n qa qb qc qd ax ay bx by' N = true := anyB_of hiN (by rw [hm', ho']; rfl)
                   rw [ho', s2]
                   simp
                 · have ho' : bad3 ax ay bx by' (g (2 * i)) (g (2 * i + 1)) (g (2 * nx n i)) (g (2 * nx n i + 1)) = false := by simpa using ho
                   have s1 : ixV3 g n qa qb qc qd ax ay bx by' (i + 1) = false := by rw [step, hi.2, ho', Bool.and_false]; rfl
                   exact ⟨i + 1, ⟨by omega, s1⟩, by omega, rfl, by rw [s1, ho', hi.2]; simp⟩
                 · have hm' : mtF g n qa qb qc qd i = false := hm
                   have s1 : ixV3 g n qa qb qc qd ax ay bx by' (i + 1) = false := by rw [step, hi.2, hm', Bool.false_and]; rfl
                   exact ⟨i + 1, ⟨by omega, s1⟩, by omega, rfl, by rw [s1, hi.2]⟩
               · have h := of_decide_eq_false h
                 have : i = N := by omega
                 subst this
                 simp
           · trivial
         · trivial
       · trivial
     · trivial
   · trivial
 · trivial
noncomputable def GssrIX4 : Ctx := ⟨⟨tys, []⟩, [(111, conR sNumSC), (112, conR sSegC), (113, pureCon sRectF), (175, pureCon rMeetF), (219, conR ix4C)]⟩
theorem gssrIX4 : CtxOk Tryz.prog GssrIX4 := ⟨⟨tysOk, FlatsOk.nil⟩, GamOk.cons sNumS (GamOk.cons sSeg (GamOk.cons (.pure sRect) (GamOk.cons (.pure rMeet) (GamOk.cons ix4 GamOk.nil)))), by kernel_rfl⟩
noncomputable def LsrIX4 (cl cw cv : Bool) (k : Int) (x y z w n : Nat) (g : Nat → Nat) (qa qb qc qd : Nat) (ax ay bx by' : Nat) (b : Bool) : Fam := ⟨Nat, fun i =>
 ⟨69, [(0, .ptr 0 0), (2, .fn (.func 219) [] [.ptr 2 0, .ptr 3 0]), (4, .ptr 4 0), (7, .int .i64 (nsg cl n (wz g))), (8, .int .i64 i)], [(0, ⟨false, 150, serC cl cw cv k x y z w 1 n, 0⟩), (1, ⟨false, 100, .flts .f64 (2 * n) g, 0⟩), (2, ⟨false, 111, bx4C ax ay bx by', 0⟩), (3, ⟨true, 4, bxBC (ixV4 g n qa qb qc qd ax ay bx by' i || b), 0⟩), (4, ⟨true, 102, .cells (qC qa qb qc qd), 0⟩)], 5⟩, fun i => i ≤ nsg cl n (wz g) ∧ ixV4 g n qa qb qc qd ax ay bx by' i = false, fun i => nsg cl n (wz g) - i⟩
noncomputable def srIX4C : List SV → RdM
 | [.ptr s 0, .agg [.flt .f64 qa, .flt .f64 qb, .flt .f64 qc, .flt .f64 qd], .fn (.func 219) [] [.ptr p1 0, .ptr a1 0]] => .read s fun o0 => (match serOf o0.c with
   | some (cl, cw, cv, k, x, y, z, w, p, n) => .read p fun o1 => (match fltsFrom .f64 o1.c with
   | some (m1, g) => .read p1 fun o2 => (match bx4 o2.c with
   | some (ax, ay, bx, by') => .read a1 fun o3 => (match rwOk o3 4 0 with
   | true => (match bxB o3.c with
   | some b => .ret ⟨[.ptr 0 0, .agg [.flt .f64 qa, .flt .f64 qb, .flt .f64 qc, .flt .f64 qd], .fn (.func 219) [] [.ptr 2 0, .ptr 3 0]], [(0, ⟨false, 150, serC cl cw cv k x y z w 1 n, 0⟩), (1, ⟨false, 100, .flts .f64 m1 g, 0⟩), (2, ⟨false, 111, bx4C ax ay bx by', 0⟩), (3, ⟨true, 4, bxBC b, 0⟩)], .tup [], [(3, ⟨true, 4, bxBC (ixV4 g n qa qb qc qd ax ay bx by' (nsg cl n (wz g)) || b), 0⟩)], [], some (m1 = 2 * n ∧ n ≤ 1000000 ∧ SmF g (2 * n) ∧ W1 ax ∧ W1 ay ∧ W1 bx ∧ W1 by')⟩
   | none => .fail)
   | false => .fail)
   | none => .fail)
   | none => .fail)
   | none => .fail)
 | _ => .fail
theorem vc_srIX4 (cl cw cv : Bool) (k : Int) (x y z w : Nat) (_ : Nm) (n : Nat) (qa qb qc qd : Nat) (ax ay bx by' : Nat) (b : Bool)  (g : Nat → Nat) : runA GssrIX4 4 [(5, LsrIX4 cl cw cv k x y z w n g qa qb qc qd ax ay bx by' b)] [] (codeOf Tryz.f172) (init Tryz.f172.ntmps [.ptr 0 0, .agg [.flt .f64 qa, .flt .f64 qb, .flt .f64 qc, .flt .f64 qd], .fn (.func 219) [] [.ptr 2 0, .ptr 3 0]] [(0, ⟨false, 150, serC cl cw cv k x y z w 1 n, 0⟩), (1, ⟨false, 100, .flts .f64 (2 * n) g, 0⟩), (2, ⟨false, 111, bx4C ax ay bx by', 0⟩), (3, ⟨true, 4, bxBC b, 0⟩)] 4) (endK GssrIX4.E.T Tryz.f172.results.toList fun S v => postP 4 ⟨[.ptr 0 0, .agg [.flt .f64 qa, .flt .f64 qb, .flt .f64 qc, .flt .f64 qd], .fn (.func 219) [] [.ptr 2 0, .ptr 3 0]], [(0, ⟨false, 150, serC cl cw cv k x y z w 1 n, 0⟩), (1, ⟨false, 100, .flts .f64 (2 * n) g, 0⟩), (2, ⟨false, 111, bx4C ax ay bx by', 0⟩), (3, ⟨true, 4, bxBC b, 0⟩)], .tup [], [(3, ⟨true, 4, bxBC (ixV4 g n qa qb qc qd ax ay bx by' (nsg cl n (wz g)) || b), 0⟩)], [], some (2 * n = 2 * n ∧ n ≤ 1000000 ∧ SmF g (2 * n) ∧ W1 ax ∧ W1 ay ∧ W1 bx ∧ W1 by')⟩ S v) = (
(2 * n = 2 * n ∧ n ≤ 1000000 ∧ SmF g (2 * n)) ∧ (∃ (i : Nat), (i ≤ nsg cl n (wz g) ∧ ixV4 g n qa qb qc qd ax ay bx by' i = false) ∧ ((True ∧ 0 = 0) ∧ (Go.Fn.func 219 = Go.Fn.func 219 ∧ True ∧ (True ∧ 0 = 0) ∧ (True ∧ 0 = 0) ∧ True) ∧ (True ∧ 0 = 0) ∧ (↑(nsg cl n (wz g)) : Int) =
(↑(nsg cl n (wz g)) : Int) ∧ 0 = (↑i : Int) ∧ True) ∧ True ∧ (cl = cl ∧ cw = cw ∧ cv = cv ∧ k = k ∧ True ∧ x = x ∧ y = y ∧ z = z ∧ w = w ∧ (True ∧ n = n) ∧ True) ∧ True ∧ (2 * n ≤ 2 * n ∧ ∀
(i : Nat), i < 2 * n → g i = g i) ∧ True ∧ (ax = ax ∧ ay = ay ∧ bx = bx ∧ by' = by' ∧ True) ∧ True ∧ (4 = 4 ∧ 0 = 0 ∧ b = (ixV4 g n qa qb qc qd ax ay bx by' i || b) ∧ True) ∧ True ∧ (102 = 102 ∧ 0 = 0 ∧ qa = qa ∧ qb = qb ∧ qc = qc ∧ qd = qd ∧ True) ∧ True) ∧ ∀ (i : Nat), i ≤ nsg cl n (wz g) ∧ ixV4 g n qa qb qc qd ax ay bx by' i = false → (decide ((↑i :
 Int) < (↑(nsg cl n (wz g)) : Int)) = true → (2 * n = 2 * n ∧ 0 ≤ (↑i : Int) ∧ (↑i : Int) < (↑n : Int) ∧ n ≤ 1000000) ∧ true = true ∧ ((!fGt .f64 (fmin (g (2 * Int.toNat (↑i : Int) + 1)) (g (2 * nx n (Int.toNat (↑i : Int)) + 1))) qd && !fLt .f64 (fmax (g (2 * Int.toNat (↑i : Int) + 1)) (g (2 *
 nx n (Int.toNat (↑i : Int)) + 1))) qb && !fGt .f64 (fmin (g (2 * Int.toNat (↑i : Int))) (g (2 * nx n (Int.toNat (↑i : Int))))) qc && !fLt .f64
(fmax (g (2 * Int.toNat (↑i : Int))) (g (2 * nx n (Int.toNat (↑i : Int))))) qa) = true → W8 ax ay bx by' (g (2 * Int.toNat (↑i : Int))) (g (2 * Int.toNat (↑i : Int)
+ 1)) (g (2 * nx n (Int.toNat (↑i : Int)))) (g (2 * nx n (Int.toNat (↑i : Int)) + 1)) ∧ ((!!bad4 ax ay bx by' (g (2 * Int.toNat (↑i : Int))) (g (2 *
 Int.toNat (↑i : Int) + 1)) (g (2 * nx n (Int.toNat (↑i : Int)))) (g (2 * nx n (Int.toNat (↑i : Int)) + 1))) = true → True ∧ True ∧ (4 = 4 ∧ 0 = 0 ∧
(bad4 ax ay bx by' (g (2 * Int.toNat (↑i : Int))) (g (2 * Int.toNat (↑i : Int) + 1)) (g (2 * nx n (Int.toNat (↑i : Int)))) (g (2 * nx n (Int.toNat (↑i :
 Int)) + 1)) || (ixV4 g n qa qb qc qd ax ay bx by' i || b)) = (ixV4 g n qa qb qc qd ax ay bx by' (nsg cl n (wz g)) || b) ∧ True) ∧ True) ∧ ((!!bad4 ax ay
 bx by' (g (2 * Int.toNat (↑i : Int))) (g (2 * Int.toNat (↑i : Int) + 1)) (g (2 * nx n (Int.toNat (↑i : Int)))) (g (2 * nx n (Int.toNat (↑i : Int)) + 1))) = false → ∃
(i' : Nat), (i' ≤ nsg cl n (wz g) ∧ ixV4 g n qa qb qc qd ax ay bx by' i' = false) ∧ nsg cl n (wz g) - i' < nsg cl n (wz g) -
 i ∧ ((True ∧ 0 = 0) ∧ (Go.Fn.func 219 = Go.Fn.func 219 ∧ True ∧ (True ∧ 0 = 0) ∧ (True ∧ 0 = 0) ∧ True) ∧ (True ∧ 0 = 0) ∧ (↑(nsg cl n
(wz g)) : Int) = (↑(nsg cl n (wz g)) : Int) ∧ Go.IntKind.wrap .i64 ((↑i : Int) + 1) = (↑i' : Int) ∧ True) ∧ True ∧ (cl = cl ∧ cw = cw ∧ cv = cv ∧ k = k ∧ True ∧ x = x ∧ y = y ∧ z = z ∧ w =
 w ∧ (True ∧ n = n) ∧ True) ∧ True ∧ (2 * n ≤ 2 * n ∧ ∀ (i : Nat), i < 2 * n → g i = g i) ∧ True ∧ (ax = ax ∧ ay = ay ∧ bx = bx ∧ by' = by' ∧ True) ∧ True ∧ (4 = 4 ∧ 0 = 0 ∧
(bad4 ax ay bx by' (g (2 * Int.toNat (↑i : Int))) (g (2 * Int.toNat (↑i : Int) + 1)) (g (2 * nx n (Int.toNat (↑i : Int)))) (g (2 * nx n (Int.toNat (↑i :
 Int)) + 1)) || (ixV4 g n qa qb qc qd ax ay bx by' i || b)) = (ixV4 g n qa qb qc qd ax ay bx by' i' || b) ∧ True) ∧ True ∧ (102 = 102 ∧ 0 = 0 ∧ qa = qa ∧ qb = qb ∧ qc = qc ∧
 qd = qd ∧ True) ∧ True)) ∧ ((!fGt .f64 (fmin (g (2 * Int.toNat (↑i : Int) + 1)) (g (2 * nx n (Int.toNat (↑i : Int)) + 1))) qd && !fLt .f64 (fmax (g (2 * Int.toNat (↑i : Int) + 1)) (g (2 * nx n (Int.toNat (↑i : Int)) + 1))) qb && !fGt .f64 (fmin (g (2 * Int.toNat (↑i : Int))) (g (2 * nx n
(Int.toNat (↑i : Int))))) qc && !fLt .f64 (fmax (g (2 * Int.toNat (↑i : Int))) (g (2 * nx n (Int.toNat (↑i : Int))))) qa) = false → ∃ (i' : Nat), (i' ≤ nsg cl n
(wz g) ∧ ixV4 g n qa qb qc qd ax ay bx by' i' = false) ∧ nsg cl n (wz g) - i' < nsg cl n (wz g) - i ∧ ((True ∧ 0 = 0) ∧
(Go.Fn.func 219 = Go.Fn.func 219 ∧ True ∧ (True ∧ 0 = 0) ∧ (True ∧ 0 = 0) ∧ True) ∧ (True ∧ 0 = 0) ∧ (↑(nsg cl n (wz g)) : Int) =
(↑(nsg cl n (wz g)) : Int) ∧ Go.IntKind.wrap .i64 ((↑i : Int) + 1) = (↑i' : Int) ∧ True) ∧ True ∧ (cl = cl ∧ cw = cw ∧ cv = cv ∧ k = k ∧ True ∧ x = x ∧ y = y ∧ z = z ∧ w = w ∧ (True ∧ n = n) ∧ True) ∧ True
∧ (2 * n ≤ 2 * n ∧ ∀ (i : Nat), i < 2 * n → g i = g i) ∧ True ∧ (ax = ax ∧ ay = ay ∧ bx = bx ∧ by' = by' ∧ True) ∧ True ∧ (4 = 4 ∧ 0 = 0 ∧ (ixV4 g n qa qb qc qd ax ay bx by' i
|| b) = (ixV4 g n qa qb qc qd ax ay bx by' i' || b) ∧ True) ∧ True ∧ (102 = 102 ∧ 0 = 0 ∧ qa = qa ∧ qb = qb ∧ qc = qc ∧ qd = qd ∧ True) ∧ True)) ∧ (decide ((↑i : Int) < (↑(nsg cl n
(wz g)) : Int)) = false → True ∧ True ∧ (4 = 4 ∧ 0 = 0 ∧ (ixV4 g n qa qb qc qd ax ay bx by' i || b) = (ixV4 g n qa qb qc qd ax ay bx by' (nsg cl n
(wz g)) || b) ∧ True) ∧ True)) := by kernel_rfl
theorem srIX4 : ConOk Tryz.prog 172 (conR srIX4C) := by
 refine con_of_vc gssrIX4 Tryz.func172 rfl (by kernel_rfl) fun args => ?_
 unfold srIX4C
 split
 · rename_i s qa qb qc qd p1 a1
   intro o0
   show RdM.All _ (match serOf o0.c with | some (cl, cw, cv, k, x, y, z, w, p, n) => _ | none => _) _
   split
   · rename_i cl cw cv k x y z w p n hm0
     intro o1
     show RdM.All _ (match fltsFrom .f64 o1.c with | some (m, g) => _ | none => _) _
     split
     · rename_i m1 g hm1
       intro o2
       show RdM.All _ (match bx4 o2.c with | some (ax, ay, bx, by') => _ | none => _) _
       split
       · rename_i ax ay bx by' hm2
         intro o3
         show RdM.All _ (match rwOk o3 4 0 with | true => _ | false => _) _
         split
         · rename_i hrw3
           show RdM.All _ (match bxB o3.c with | some b => _ | none => _) _
           split
           · rename_i b hm3
             intro ho
             replace ho : m1 = 2 * n ∧ n ≤ 1000000 ∧ SmF g (2 * n) ∧ W1 ax ∧ W1 ay ∧ W1 bx ∧ W1 by' := ho
             obtain ⟨hsz1, ho⟩ := ho
             subst hsz1
             refine ⟨?_, _, _, (vc_srIX4 cl cw cv k x y z w p n qa qb qc qd ax ay bx by' b g).mpr ?_⟩
             · refine okFlag_mk rfl ⟨?_, ⟨trivial, serOf_spec hm0 (by simp [sgSig, fsts, nth, sameN_self]), ⟨trivial, (contR_flts hm1).1, ⟨trivial, bx4_spec hm2, ⟨trivial, obR_rw hrw3 (bxB_spec hm3), trivial⟩⟩⟩⟩⟩
               simp [eqvRL, eqvR, fkEq_self, sgSig, fsts, nth, sameN_self]
             · obtain ⟨hn, hg, h1, h2, h3, h4⟩ := ho
               have hns := nsg_le cl n (wz g)
               generalize nsg cl n (wz g) = N at hns ⊢
               simp only [true_and, and_true, eq_self, Nat.le_refl, implies_true, Int.toNat_natCast]
               refine ⟨⟨hn, hg⟩, ⟨0, by simp [ixV4, anyB]⟩, fun i hi => ⟨fun h => ?_, fun h => ?_⟩⟩
               · have h := of_decide_eq_true h
                 have hiN : i < N := by omega
                 have n1 := nx_lt (show i < n by omega)
                 have hw : IntKind.i64.wrap ((i : Int) + 1) = ((i + 1 : Nat) : Int) := by rw [wrap64 (by omega) (by omega)]; omega
                 have step : ixV4 g n qa qb qc qd ax ay bx by' (i + 1) = (ixV4 g n qa qb qc qd ax ay bx by' i || (mtF g n qa qb qc qd i && bad4 ax ay bx by' (g (2 * i)) (g (2 * i + 1)) (g (2 * nx n i)) (g (2 * nx n i + 1)))) := rfl
                 rw [hw]
                 refine ⟨⟨by omega, by omega, hn⟩, fun hm => ⟨⟨⟨h1, h2, h3, h4⟩, hg _ (by omega), hg _ (by omega), hg _ (by omega), hg _ (by omega)⟩, fun ho => ?_, fun ho => ?_⟩, fun hm => ?_⟩
                 · have ho' : bad4 ax ay bx by' (g (2 * i)) (g (2 * i + 1)) (g (2 * nx n i)) (g (2 * nx n i + 1)) = true := by simpa using ho
                   have hm' : mtF g n qa qb qc qd i = true := hm
                   have s2 : ixV4 g n qa qb qc qd ax ay bx by' N = true := anyB_of hiN (by rw [hm', ho']; rfl)
                   rw [ho', s2]
                   simp
                 · have ho' : bad4 ax ay bx by' (g (2 * i)) (g (2 * i + 1)) (g (2 * nx n i)) (g (2 * nx n i + 1)) = false := by simpa using ho
                   have s1 : ixV4 g n qa qb qc qd ax ay bx by' (i + 1) = false := by rw [step, hi.2, ho', Bool.and_false]; rfl
                   exact ⟨i + 1, ⟨by omega, s1⟩, by omega, rfl, by rw [s1, ho', hi.2]; simp⟩
                 · have hm' : mtF g n qa qb qc qd i = false := hm
                   have s1 : ixV4 g n qa qb qc qd ax ay bx by' (i + 1) = false := by rw [step, hi.2, hm', Bool.false_and]; rfl
                   exact ⟨i + 1, ⟨by omega, s1⟩, by omega, rfl, by rw [s1, hi.2]⟩
               · have h := of_decide_eq_false h
                 have : i = N := by omega
                 subst this
                 simp
           · trivial
         · trivial
       · trivial
     · trivial
   · trivial
 · trivial
noncomputable def GssrIX5 : Ctx := ⟨⟨tys, []⟩, [(111, conR sNumSC), (112, conR sSegC), (113, pureCon sRectF), (175, pureCon rMeetF), (220, conR ix5C)]⟩
theorem gssrIX5 : CtxOk Tryz.prog GssrIX5 := ⟨⟨tysOk, FlatsOk.nil⟩, GamOk.cons sNumS (GamOk.cons sSeg (GamOk.cons (.pure sRect) (GamOk.cons (.pure rMeet) (GamOk.cons ix5 GamOk.nil)))), by kernel_rfl⟩
noncomputable def LsrIX5 (cl cw cv : Bool) (k : Int) (x y z w n : Nat) (g : Nat → Nat) (qa qb qc qd : Nat) (ax ay bx by' : Nat) (b : Bool) : Fam := ⟨Nat, fun i =>
 ⟨69, [(0, .ptr 0 0), (2, .fn (.func 220) [] [.ptr 2 0, .ptr 3 0]), (4, .ptr 4 0), (7, .int .i64 (nsg cl n (wz g))), (8, .int .i64 i)], [(0, ⟨false, 150, serC cl cw cv k x y z w 1 n, 0⟩), (1, ⟨false, 100, .flts .f64 (2 * n) g, 0⟩), (2, ⟨false, 111, bx4C ax ay bx by', 0⟩), (3, ⟨true, 4, bxBC (ixV5 g n qa qb qc qd ax ay bx by' i || b), 0⟩), (4, ⟨true, 102, .cells (qC qa qb qc qd), 0⟩)], 5⟩, fun i => i ≤ nsg cl n (wz g) ∧ ixV5 g n qa qb qc qd ax ay bx by' i = false, fun i => nsg cl n (wz g) - i⟩
noncomputable def srIX5C : List SV → RdM
 | [.ptr s 0, .agg [.flt .f64 qa, .flt .f64 qb, .flt .f64 qc, .flt .f64 qd], .fn (.func 220) [] [.ptr p1 0, .ptr a1 0]] => .read s fun o0 => (match serOf o0.c with
   | some (cl, cw, cv, k, x, y, z, w, p, n) => .read p fun o1 => (match fltsFrom .f64 o1.c with
   | some (m1, g) => .read p1 fun o2 => (match bx4 o2.c with
   | some (ax, ay, bx, by') => .read a1 fun o3 => (match rwOk o3 4 0 with
   | true => (match bxB o3.c with
   | some b => .ret ⟨[.ptr 0 0, .agg [.flt .f64 qa, .flt .f64 qb, .flt .f64 qc, .flt .f64 qd], .fn (.func 220) [] [.ptr 2 0, .ptr 3 0]], [(0, ⟨false, 150, serC cl cw cv k x y z w 1 n, 0⟩), (1, ⟨false, 100, .flts .f64 m1 g, 0⟩), (2, ⟨false, 111, bx4C ax ay bx by', 0⟩), (3, ⟨true, 4, bxBC b, 0⟩)], .tup [], [(3, ⟨true, 4, bxBC (ixV5 g n qa qb qc qd ax ay bx by' (nsg cl n (wz g)) || b), 0⟩)], [], some (m1 = 2 * n ∧ n ≤ 1000000 ∧ SmF g (2 * n) ∧ W1 ax ∧ W1 ay ∧ W1 bx ∧ W1 by')⟩
   | none => .fail)
   | false => .fail)
   | none => .fail)
   | none => .fail)
   | none => .fail)
 | _ => .fail
theorem vc_srIX5 (cl cw cv : Bool) (k : Int) (x y z w : Nat) (_ : Nm) (n : Nat) (qa qb qc qd : Nat) (ax ay bx by' : Nat) (b : Bool)  (g : Nat → Nat) : runA GssrIX5 4 [(5, LsrIX5 cl cw cv k x y z w n g qa qb qc qd ax ay bx by' b)] [] (codeOf Tryz.f172) (init Tryz.f172.ntmps [.ptr 0 0, .agg [.flt .f64 qa, .flt .f64 qb, .flt .f64 qc, .flt .f64 qd], .fn (.func 220) [] [.ptr 2 0, .ptr 3 0]] [(0, ⟨false, 150, serC cl cw cv k x y z w 1 n, 0⟩), (1, ⟨false, 100, .flts .f64 (2 * n) g, 0⟩), (2, ⟨false, 111, bx4C ax ay bx by', 0⟩), (3, ⟨true, 4, bxBC b, 0⟩)] 4) (endK GssrIX5.E.T Tryz.f172.results.toList fun S v => postP 4 ⟨[.ptr 0 0, .agg [.flt .f64 qa, .flt .f64 qb, .flt .f64 qc, .flt .f64 qd], .fn (.func 220) [] [.ptr 2 0, .ptr 3 0]], [(0, ⟨false, 150, serC cl cw cv k x y z w 1 n, 0⟩), (1, ⟨false, 100, .flts .f64 (2 * n) g, 0⟩), (2, ⟨false, 111, bx4C ax ay bx by', 0⟩), (3, ⟨true, 4, bxBC b, 0⟩)], .tup [], [(3, ⟨true, 4, bxBC (ixV5 g n qa qb qc qd ax ay bx by' (nsg cl n (wz g)) || b), 0⟩)], [], some (2 * n = 2 * n ∧ n ≤ 1000000 ∧ SmF g (2 * n) ∧ W1 ax ∧ W1 ay ∧ W1 bx ∧ W1 by')⟩ S v) = (
(2 * n = 2 * n ∧ n ≤ 1000000 ∧ SmF g (2 * n)) ∧ (∃ (i : Nat), (i ≤ nsg cl n (wz g) ∧ ixV5 g n qa qb qc qd ax ay bx by' i = false) ∧ ((True ∧ 0 = 0) ∧ (Go.Fn.func 220 = Go.Fn.func 220 ∧ True ∧ (True ∧ 0 = 0) ∧ (True ∧ 0 = 0) ∧ True) ∧ (True ∧ 0 = 0) ∧ (↑(nsg cl n (wz g)) : Int) =
(↑(nsg cl n (wz g)) : Int) ∧ 0 = (↑i : Int) ∧ True) ∧ True ∧ (cl = cl ∧ cw = cw ∧ cv = cv ∧ k = k ∧ True ∧ x = x ∧ y = y ∧ z = z ∧ w = w ∧ (True ∧ n = n) ∧ True) ∧ True ∧ (2 * n ≤ 2 * n ∧ ∀
(i : Nat), i < 2 * n → g i = g i) ∧ True ∧ (ax = ax ∧ ay = ay ∧ bx = bx ∧ by' = by' ∧ True) ∧ True ∧ (4 = 4 ∧ 0 = 0 ∧ b = (ixV5 g n qa qb qc qd ax ay bx by' i || b) ∧ True) ∧ True ∧ (102 = 102 ∧ 0 = 0 ∧ qa = qa ∧ qb = qb ∧ qc = qc ∧ qd = qd ∧ True) ∧ True) ∧ ∀ (i : Nat), i ≤ nsg cl n (wz g) ∧ ixV5 g n qa qb qc qd ax ay bx by' i = false → (decide ((↑i :
 Int) < (↑(nsg cl n (wz g)) : Int)) = true → (2 * n = 2 * n ∧ 0 ≤ (↑i : Int) ∧ (↑i : Int) < (↑n : Int) ∧ n ≤ 1000000) ∧ true = true ∧ ((!fGt .f64 (fmin (g (2 * Int.toNat (↑i : Int) + 1)) (g (2 * nx n (Int.toNat (↑i : Int)) + 1))) qd && !fLt .f64 (fmax (g (2 * Int.toNat (↑i : Int) + 1)) (g (2 *
 nx n (Int.toNat (↑i : Int)) + 1))) qb && !fGt .f64 (fmin (g (2 * Int.toNat (↑i : Int))) (g (2 * nx n (Int.toNat (↑i : Int))))) qc && !fLt .f64
(fmax (g (2 * Int.toNat (↑i : Int))) (g (2 * nx n (Int.toNat (↑i : Int))))) qa) = true → W8 ax ay bx by' (g (2 * Int.toNat (↑i : Int))) (g (2 * Int.toNat (↑i : Int)
+ 1)) (g (2 * nx n (Int.toNat (↑i : Int)))) (g (2 * nx n (Int.toNat (↑i : Int)) + 1)) ∧ ((!!bad5 ax ay bx by' (g (2 * Int.toNat (↑i : Int))) (g (2 *
 Int.toNat (↑i : Int) + 1)) (g (2 * nx n (Int.toNat (↑i : Int)))) (g (2 * nx n (Int.toNat (↑i : Int)) + 1))) = true → True ∧ True ∧ (4 = 4 ∧ 0 = 0 ∧
(bad5 ax ay bx by' (g (2 * Int.toNat (↑i : Int))) (g (2 * Int.toNat (↑i : Int) + 1)) (g (2 * nx n (Int.toNat (↑i : Int)))) (g (2 * nx n (Int.toNat (↑i :
 Int)) + 1)) || (ixV5 g n qa qb qc qd ax ay bx by' i || b)) = (ixV5 g n qa qb qc qd ax ay bx by' (nsg cl n (wz g)) || b) ∧ True) ∧ True) ∧ ((!!bad5 ax ay
 bx by' (g (2 * Int.toNat (↑i : Int))) (g (2 * Int.toNat (↑i : Int) + 1)) (g (2 * nx n (Int.toNat (↑i : Int)))) (g (2 * nx n (Int.toNat (↑i : Int)) + 1))) = false → ∃
(i' : Nat), (i' ≤ nsg cl n (wz g) ∧ ixV5 g n qa qb qc qd ax ay bx by' i' = false) ∧ nsg cl n (wz g) - i' < nsg cl n (wz g) -
 i ∧ ((True ∧ 0 = 0) ∧ (Go.Fn.func 220 = Go.Fn.func 220 ∧ True ∧ (True ∧ 0 = 0) ∧ (True ∧ 0 = 0) ∧ True) ∧ (True ∧ 0 = 0) ∧ (↑(nsg cl n
(wz g)) : Int) = (↑(nsg cl n (wz g)) : Int) ∧ Go.IntKind.wrap .i64 ((↑i : Int) + 1) = (↑i' : Int) ∧ True) ∧ True ∧ (cl = cl ∧ cw = cw ∧ cv = cv ∧ k = k ∧ True ∧ x = x ∧ y = y ∧ z = z ∧ w =
 w ∧ (True ∧ n = n) ∧ True) ∧ True ∧ (2 * n ≤ 2 * n ∧ ∀ (i : Nat), i < 2 * n → g i = g i) ∧ True ∧ (ax = ax ∧ ay = ay ∧ bx = bx ∧ by' = by' ∧ True) ∧ True ∧ (4 = 4 ∧ 0 = 0 ∧
(bad5 ax ay bx by' (g (2 * Int.toNat (↑i : Int))) (g (2 * Int.toNat (↑i : Int) + 1)) (g (2 * nx n (Int.toNat (↑i : Int)))) (g (2 * nx n (Int.toNat (↑i :
 Int)) + 1)) || (ixV5 g n qa qb qc qd ax ay bx by' i || b)) = (ixV5 g n qa qb qc qd ax ay bx by' i' || b) ∧ True) ∧ True ∧ (102 = 102 ∧ 0 = 0 ∧ qa = qa ∧ qb = qb ∧ qc = qc ∧
 qd = qd ∧ True) ∧ True)) ∧ ((!fGt .f64 (fmin (g (2 * Int.toNat (↑i : Int) + 1)) (g (2 * nx n (Int.toNat (↑i : Int)) + 1))) qd && !fLt .f64 (fmax (g (2 * Int.toNat (↑i : Int) + 1)) (g (2 * nx n (Int.toNat (↑i : Int)) + 1))) qb && !fGt .f64 (fmin (g (2 * Int.toNat (↑i : Int))) (g (2 * nx n
(Int.toNat (↑i : Int))))) qc && !fLt .f64 (fmax (g (2 * Int.toNat (↑i : Int))) (g (2 * nx n (Int.toNat (↑i : Int))))) qa) = false → ∃ (i' : Nat), (i' ≤ nsg cl n
(wz g) ∧ ixV5 g n qa qb qc qd ax ay bx by' i' = false) ∧ nsg cl n (wz g) - i' < nsg cl n (wz g) - i ∧ ((True ∧ 0 = 0) ∧
(Go.Fn.func 220 = Go.Fn.func 220 ∧ True ∧ (True ∧ 0 = 0) ∧ (True ∧ 0 = 0) ∧ True) ∧ (True ∧ 0 = 0) ∧ (↑(nsg cl n (wz g)) : Int) =
(↑(nsg cl n (wz g)) : Int) ∧ Go.IntKind.wrap .i64 ((↑i : Int) + 1) = (↑i' : Int) ∧ True) ∧ True ∧ (cl = cl ∧ cw = cw ∧ cv = cv ∧ k = k ∧ True ∧ x = x ∧ y = y ∧ z = z ∧ w = w ∧ (True ∧ n = n) ∧ True) ∧ True
∧ (2 * n ≤ 2 * n ∧ ∀ (i : Nat), i < 2 * n → g i = g i) ∧ True ∧ (ax = ax ∧ ay = ay ∧ bx = bx ∧ by' = by' ∧ True) ∧ True ∧ (4 = 4 ∧ 0 = 0 ∧ (ixV5 g n qa qb qc qd ax ay bx by' i
|| b) = (ixV5 g n qa qb qc qd ax ay bx by' i' || b) ∧ True) ∧ True ∧ (102 = 102 ∧ 0 = 0 ∧ qa = qa ∧ qb = qb ∧ qc = qc ∧ qd = qd ∧ True) ∧ True)) ∧ (decide ((↑i : Int) < (↑(nsg cl n
(wz g)) : Int)) = false → True ∧ True ∧ (4 = 4 ∧ 0 = 0 ∧ (ixV5 g n qa qb qc qd ax ay bx by' i || b) = (ixV5 g n qa qb qc qd ax ay bx by' (nsg cl n
(wz g)) || b) ∧ True) ∧ True)) := by kernel_rfl
theorem srIX5 : ConOk Tryz.prog 172 (conR srIX5C) := by
 refine con_of_vc gssrIX5 Tryz.func172 rfl (by kernel_rfl) fun args => ?_
 unfold srIX5C
 split
 · rename_i s qa qb qc qd p1 a1
   intro o0
   show RdM.All _ (match serOf o0.c with | some (cl, cw, cv, k, x, y, z, w, p, n) => _ | none => _) _
   split
   · rename_i cl cw cv k x y z w p n hm0
     intro o1
     show RdM.All _ (match fltsFrom .f64 o1.c with | some (m, g) => _ | none => _) _
     split
     · rename_i m1 g hm1
       intro o2
       show RdM.All _ (match bx4 o2.c with | some (ax, ay, bx, by') => _ | none => _) _
       split
       · rename_i ax ay bx by' hm2
         intro o3
         show RdM.All _ (match rwOk o3 4 0 with | true => _ | false => _) _
         split
         · rename_i hrw3
           show RdM.All _ (match bxB o3.c with | some b => _ | none => _) _
           split
           · rename_i b hm3
             intro ho
             replace ho : m1 = 2 * n ∧ n ≤ 1000000 ∧ SmF g (2 * n) ∧ W1 ax ∧ W1 ay ∧ W1 bx ∧ W1 by' := ho
             obtain ⟨hsz1, ho⟩ := ho
             subst hsz1
             refine ⟨?_, _, _, (vc_srIX5 cl cw cv k x y z w p n qa qb qc qd ax ay bx by' b g).mpr ?_⟩
             · refine okFlag_mk rfl ⟨?_, ⟨trivial, serOf_spec hm0 (by simp [sgSig, fsts, nth, sameN_self]), ⟨trivial, (contR_flts hm1).1, ⟨trivial, bx4_spec hm2, ⟨trivial, obR_rw hrw3 (bxB_spec hm3), trivial⟩⟩⟩⟩⟩
               simp [eqvRL, eqvR, fkEq_self, sgSig, fsts, nth, sameN_self]
             · obtain ⟨hn, hg, h1, h2, h3, h4⟩ := ho
               have hns := nsg_le cl n (wz g)
               generalize nsg cl n (wz g) = N at hns ⊢
               simp only [true_and, and_true, eq_self, Nat.le_refl, implies_true, Int.toNat_natCast]
               refine ⟨⟨hn, hg⟩, ⟨0, by simp [ixV5, anyB]⟩, fun i hi => ⟨fun h => ?_, fun h => ?_⟩⟩
               · have h := of_decide_eq_true h
                 have hiN : i < N := by omega
                 have n1 := nx_lt (show i < n by omega)
                 have hw : IntKind.i64.wrap ((i : Int) + 1) = ((i + 1 : Nat) : Int) := by rw [wrap64 (by omega) (by omega)]; omega
                 have step : ixV5 g n qa qb qc qd ax ay bx by' (i + 1) = (ixV5 g n qa qb qc qd ax ay bx by' i || (mtF g n qa qb qc qd i && bad5 ax ay bx by' (g (2 * i)) (g (2 * i + 1)) (g (2 * nx n i)) (g (2 * nx n i + 1)))) := rfl
                 rw [hw]
                 refine ⟨⟨by omega, by omega, hn⟩, fun hm => ⟨⟨⟨h1, h2, h3, h4⟩, hg _ (by omega), hg _ (by omega), hg _ (by omega), hg _ (by omega)⟩, fun ho => ?_, fun ho => ?_⟩, fun hm => ?_⟩
                 · have ho' : bad5 ax ay bx by' (g (2 * i)) (g (2 * i + 1)) (g (2 * nx n i)) (g (2 * nx n i + 1)) = true := by simpa using ho
                   have hm' : mtF g n qa qb qc qd i = true := hm
                   have s2 : ixV5 g n qa qb qc qd ax ay bx by' N = true := anyB_of hiN (by rw [hm', ho']; rfl)
                   rw [ho', s2]
                   simp
                 · have ho' : bad5 ax ay bx by' (g (2 * i)) (g (2 * i + 1)) (g (2 * nx n i)) (g (2 * nx n i + 1)) = false := by simpa using ho
                   have s1 : ixV5 g n qa qb qc qd ax ay bx by' (i + 1) = false := by rw [step, hi.2, ho', Bool.and_false]; rfl
                   exact ⟨i + 1, ⟨by omega, s1⟩, by omega, rfl, by rw [s1, ho', hi.2]; simp⟩
                 · have hm' : mtF g n qa qb qc qd i = false := hm
                   have s1 : ixV5 g n qa qb qc qd ax ay bx by' (i + 1) = false := by rw [step, hi.2, hm', Bool.false_and]; rfl
                   exact ⟨i + 1, ⟨by omega, s1⟩, by omega, rfl, by rw [s1, hi.2]⟩
               · have h := of_decide_eq_false h
                 have : i = N := by omega
                 subst this
                 simp
           · trivial
         · trivial
       · trivial
     · trivial
   · trivial
 · trivial
def rcG (a b c d : Nat) (j : Nat) : Nat := [a, b, c, b, c, d, a, d].getD j 0
theorem pt_rcG (a b c d : Nat) {i : Nat} (hi : i < 4) : (ptAt a b c d (i : Int)).1 = rcG a b c d (2 * i) ∧ (ptAt a b c d (i : Int)).2 = rcG a b c d (2 * i + 1) ∧ (ptAt a b c d ((i : Int) + 1)).1 = rcG a b c d (2 * nx 4 i) ∧ (ptAt a b c d ((i : Int) + 1)).2 = rcG a b c d (2 * nx 4 i + 1) := by
 have : i = 0 ∨ i = 1 ∨ i = 2 ∨ i = 3 := by omega
 rcases this with rfl | rfl | rfl | rfl <;> exact ⟨rfl, rfl, rfl, rfl⟩
theorem sm_rcG {a b c d : Nat} (ha : W1 a) (hb : W1 b) (hc : W1 c) (hd : W1 d) : SmF (rcG a b c d) 8 := by
 intro j hj
 have : j = 0 ∨ j = 1 ∨ j = 2 ∨ j = 3 ∨ j = 4 ∨ j = 5 ∨ j = 6 ∨ j = 7 := by omega
 rcases this with rfl | rfl | rfl | rfl | rfl | rfl | rfl | rfl <;> assumption
noncomputable def GsrrCP : Ctx := ⟨⟨tys, []⟩, [(203, pureCon rNumSF), (204, pureCon rSegAtF), (113, pureCon sRectF), (175, pureCon rMeetF), (185, conR cpGC)]⟩
theorem gsrrCP : CtxOk Tryz.prog GsrrCP := ⟨⟨tysOk, FlatsOk.nil⟩, GamOk.cons (.pure rNumS) (GamOk.cons (.pure rSegAt) (GamOk.cons (.pure sRect) (GamOk.cons (.pure rMeet) (GamOk.cons cpG GamOk.nil)))), by kernel_rfl⟩
noncomputable def LrrCP (a b c d : Nat) (qa qb qc qd : Nat) (px py : Nat) (al e0 : Bool) (ix : Int) : Fam := ⟨Nat, fun i =>
 ⟨31, [(2, .fn (.func 185) [] [.ptr 0 0, .ptr 1 0, .ptr 2 0, .ptr 3 0]), (3, .ptr 4 0), (4, .ptr 5 0), (6, .int .i64 i), (7, .int .i64 4), (8, .int .i64 i)], [(0, ⟨false, 100, bxPC px py, 0⟩), (1, ⟨false, 4, bxBC al, 0⟩), (2, ⟨true, 3, bxIC (cpV (rcG a b c d) 4 qa qb qc qd px py al e0 ix i).2.2, 0⟩), (3, ⟨true, 4, bxBC (cpV (rcG a b c d) 4 qa qb qc qd px py al e0 ix i).2.1, 0⟩), (4, ⟨true, 102, .cells (qC a b c d), 0⟩), (5, ⟨true, 102, .cells (qC qa qb qc qd), 0⟩)], 6⟩, fun i => i ≤ 4 ∧ (cpV (rcG a b c d) 4 qa qb qc qd px py al e0 ix i).1 = false, fun i => 4 - i⟩
noncomputable def rrCPC : List SV → RdM
 | [.agg [.flt .f64 a, .flt .f64 b, .flt .f64 c, .flt .f64 d], .agg [.flt .f64 qa, .flt .f64 qb, .flt .f64 qc, .flt .f64 qd], .fn (.func 185) [] [.ptr p1 0, .ptr a1 0, .ptr x1 0, .ptr y1 0]] => .read p1 fun o0 => (match bxP o0.c with
   | some (px, py) => .read a1 fun o1 => (match bxB o1.c with
   | some al => .read x1 fun o2 => (match rwOk o2 3 0 with
   | true => (match bxI o2.c with
   | some ix => .read y1 fun o3 => (match rwOk o3 4 0 with
   | true => (match bxB o3.c with
   | some e0 => .ret ⟨[.agg [.flt .f64 a, .flt .f64 b, .flt .f64 c, .flt .f64 d], .agg [.flt .f64 qa, .flt .f64 qb, .flt .f64 qc, .flt .f64 qd], .fn (.func 185) [] [.ptr 0 0, .ptr 1 0, .ptr 2 0, .ptr 3 0]], [(0, ⟨false, 100, bxPC px py, 0⟩), (1, ⟨false, 4, bxBC al, 0⟩), (2, ⟨true, 3, bxIC ix, 0⟩), (3, ⟨true, 4, bxBC e0, 0⟩)], .tup [], [(2, ⟨true, 3, bxIC (cpV (rcG a b c d) 4 qa qb qc qd px py al e0 ix 4).2.2, 0⟩), (3, ⟨true, 4, bxBC (cpV (rcG a b c d) 4 qa qb qc qd px py al e0 ix 4).2.1, 0⟩)], [], some ((W1 a ∧ W1 b ∧ W1 c ∧ W1 d) ∧ W1 px ∧ W1 py)⟩
   | none => .fail)
   | false => .fail)
   | none => .fail)
   | false => .fail)
   | none => .fail)
   | none => .fail)
 | _ => .fail
theorem vc_rrCP (a b c d : Nat) (qa qb qc qd : Nat) (px py : Nat) (al e0 : Bool) (ix : Int) : runA GsrrCP 4 [(4, LrrCP a b c d qa qb qc qd px py al e0 ix)] [] (codeOf Tryz.f199) (init Tryz.f199.ntmps [.agg [.flt .f64 a, .flt .f64 b, .flt .f64 c, .flt .f64 d], .agg [.flt .f64 qa, .flt .f64 qb, .flt .f64 qc, .flt .f64 qd], .fn (.func 185) [] [.ptr 0 0, .ptr 1 0, .ptr 2 0, .ptr 3 0]] [(0, ⟨false, 100, bxPC px py, 0⟩), (1, ⟨false, 4, bxBC al, 0⟩), (2, ⟨true, 3, bxIC ix, 0⟩), (3, ⟨true, 4, bxBC e0, 0⟩)] 4) (endK GsrrCP.E.T Tryz.f199.results.toList fun S v => postP 4 ⟨[.agg [.flt .f64 a, .flt .f64 b, .flt .f64 c, .flt .f64 d], .agg [.flt .f64 qa, .flt .f64 qb, .flt .f64 qc, .flt .f64 qd], .fn (.func 185) [] [.ptr 0 0, .ptr 1 0, .ptr 2 0, .ptr 3 0]], [(0, ⟨false, 100, bxPC px py, 0⟩), (1, ⟨false, 4, bxBC al, 0⟩), (2, ⟨true, 3, bxIC ix, 0⟩), (3, ⟨true, 4, bxBC e0, 0⟩)], .tup [], [(2, ⟨true, 3, bxIC (cpV (rcG a b c d) 4 qa qb qc qd px py al e0 ix 4).2.2, 0⟩), (3, ⟨true, 4, bxBC (cpV (rcG a b c d) 4 qa qb qc qd px py al e0 ix 4).2.1, 0⟩)], [], some ((W1 a ∧ W1 b ∧ W1 c ∧ W1 d) ∧ W1 px ∧ W1 py)⟩ S v) = (
(∃ (i : Nat), (i ≤ 4 ∧ (cpV (rcG a b c d) 4 qa qb qc qd px py al e0 ix i).1 = false) ∧ ((Go.Fn.func 185 = Go.Fn.func 185 ∧ True ∧ (True ∧ 0 = 0) ∧ (True ∧ 0 = 0) ∧ (True ∧ 0 = 0) ∧ (True ∧ 0 = 0) ∧ True) ∧ (True ∧ 0 = 0) ∧ (True ∧ 0 = 0) ∧ 0 = (↑i : Int) ∧ (4 : Int) = 4 ∧ 0 = (↑i : Int) ∧ True) ∧ True ∧
(px = px ∧ py = py ∧ True) ∧ True ∧ (al = al ∧ True) ∧ True ∧ (3 = 3 ∧ 0 = 0 ∧ ix = ((cpV (rcG a b c d) 4 qa qb qc qd px py al e0 ix i).2).2 ∧ True) ∧ True ∧
(4 = 4 ∧ 0 = 0 ∧ e0 = ((cpV (rcG a b c d) 4 qa qb qc qd px py al e0 ix i).2).1 ∧ True) ∧ True ∧ (102 = 102 ∧ 0 = 0 ∧ a = a ∧ b =
 b ∧ c = c ∧ d = d ∧ True) ∧ True ∧ (102 = 102 ∧ 0 = 0 ∧ qa = qa ∧ qb = qb ∧ qc = qc ∧ qd = qd ∧ True) ∧ True) ∧ ∀ (i : Nat), i ≤ 4 ∧ (cpV (rcG a b c d) 4 qa
 qb qc qd px py al e0 ix i).1 = false → (decide ((↑i : Int) < 4) = true → (0 ≤ (↑i : Int) ∧ (↑i : Int) ≤ 3) ∧ true = true ∧ ((!fGt .f64 (fmin ((ptAt a b c d (↑i : Int)).2)
((ptAt a b c d ((↑i : Int) + 1)).2)) qd && !fLt .f64 (fmax ((ptAt a b c d (↑i : Int)).2) ((ptAt a b c d ((↑i : Int) + 1)).2)) qb &&
!fGt .f64 (fmin ((ptAt a b c d (↑i : Int)).1) ((ptAt a b c d ((↑i : Int) + 1)).1)) qc && !fLt .f64 (fmax ((ptAt a b c
 d (↑i : Int)).1) ((ptAt a b c d ((↑i : Int) + 1)).1)) qa) = true → PW ((ptAt a b c d (↑i : Int)).1) ((ptAt a b c d (↑i : Int)).2) (Prod.fst
(ptAt a b c d ((↑i : Int) + 1))) ((ptAt a b c d ((↑i : Int) + 1)).2) px py ∧ ((!!onW ((ptAt a b c d (↑i : Int)).1) ((ptAt
 a b c d (↑i : Int)).2) ((ptAt a b c d ((↑i : Int) + 1)).1) ((ptAt a b c d ((↑i : Int) + 1)).2) px py) = true → True ∧ True ∧ (3 = 3 ∧ 0 = 0 ∧ (if
 onW ((ptAt a b c d (↑i : Int)).1) ((ptAt a b c d (↑i : Int)).2) ((ptAt a b c d ((↑i : Int) + 1)).1) ((ptAt a b c d ((↑i :
 Int) + (1 : Int))).2) px py = true then (↑i : Int) else ((cpV (rcG a b c d) 4 qa qb qc qd px py al e0 ix i).2).2) = ((cpV (rcG a b c d) 4 qa qb qc qd px py al e0 ix 4).2).2 ∧ True) ∧ True ∧ (4 = 4 ∧ 0 = 0 ∧ (if onW ((ptAt a b c d (↑i : Int)).1) ((ptAt a b c d (↑i : Int)).2)
((ptAt a b c d ((↑i : Int) + 1)).1) ((ptAt a b c d ((↑i : Int) + 1)).2) px py = true then al else ((cpV (rcG a b c d) 4 qa
 qb qc qd px py al e0 ix i).2).1 ^^ lfW ((ptAt a b c d (↑i : Int)).1) ((ptAt a b c d (↑i : Int)).2) ((ptAt a b c d ((↑i : Int) + 1)).1) (Prod.snd
(ptAt a b c d ((↑i : Int) + 1))) px py) = ((cpV (rcG a b c d) 4 qa qb qc qd px py al e0 ix 4).2).1 ∧ True) ∧ True) ∧ ((!!onW (Prod.fst
(ptAt a b c d (↑i : Int))) ((ptAt a b c d (↑i : Int)).2) ((ptAt a b c d ((↑i : Int) + 1)).1) ((ptAt a b c d ((↑i : Int) + 1)).2) px py) =
 false → ∃ (i' : Nat), (i' ≤ 4 ∧ (cpV (rcG a b c d) 4 qa qb qc qd px py al e0 ix i').1 = false) ∧ 4 - i' < 4 - i ∧ ((Go.Fn.func 185 = Go.Fn.func 185 ∧ True ∧
(True ∧ 0 = 0) ∧ (True ∧ 0 = 0) ∧ (True ∧ 0 = 0) ∧ (True ∧ 0 = 0) ∧ True) ∧ (True ∧ 0 = 0) ∧ (True ∧ 0 = 0) ∧ Go.IntKind.wrap .i64 ((↑i : Int) + (1 :
 Int)) = (↑i' : Int) ∧ (4 : Int) = 4 ∧ Go.IntKind.wrap .i64 ((↑i : Int) + 1) = (↑i' : Int) ∧ True) ∧ True ∧ (px = px ∧ py = py ∧ True) ∧ True ∧ (al = al ∧ True) ∧ True ∧ (3 = 3 ∧ 0 = 0 ∧ (if
 onW ((ptAt a b c d (↑i : Int)).1) ((ptAt a b c d (↑i : Int)).2) ((ptAt a b c d ((↑i : Int) + 1)).1) ((ptAt a b c d ((↑i :
 Int) + (1 : Int))).2) px py = true then (↑i : Int) else ((cpV (rcG a b c d) 4 qa qb qc qd px py al e0 ix i).2).2) = ((cpV (rcG a b c d) 4 qa qb qc qd px py al e0 ix i').2).2 ∧ True) ∧ True ∧ (4 = 4 ∧ 0 = 0 ∧ (if onW ((ptAt a b c d (↑i : Int)).1) ((ptAt a b c d (↑i : Int)).2) (Prod.fst
(ptAt a b c d ((↑i : Int) + 1))) ((ptAt a b c d ((↑i : Int) + 1)).2) px py = true then al else ((cpV (rcG a b c d) 4 qa qb qc qd
 px py al e0 ix i).2).1 ^^ lfW ((ptAt a b c d (↑i : Int)).1) ((ptAt a b c d (↑i : Int)).2) ((ptAt a b c d ((↑i : Int) + 1)).1) (Prod.snd
(ptAt a b c d ((↑i : Int) + 1))) px py) = ((cpV (rcG a b c d) 4 qa qb qc qd px py al e0 ix i').2).1 ∧ True) ∧ True ∧ (102 = 102 ∧ 0 = 0 ∧ a = a ∧ b = b ∧ c = c ∧ d = d ∧ True) ∧ True ∧ (102 = 102 ∧ 0 = 0 ∧ qa = qa ∧ qb = qb ∧ qc = qc ∧ qd = qd ∧ True) ∧ True)) ∧ ((!fGt .f64 (fmin ((ptAt a b c d
(↑i : Int)).2) ((ptAt a b c d ((↑i : Int) + 1)).2)) qd && !fLt .f64 (fmax ((ptAt a b c d (↑i : Int)).2) ((ptAt a b c d ((↑i : Int) + (1 :
 Int))).2)) qb && !fGt .f64 (fmin ((ptAt a b c d (↑i : Int)).1) ((ptAt a b c d ((↑i : Int) + 1)).1)) qc && !fLt .f64 (fmax (Prod.fst
(ptAt a b c d (↑i : Int))) ((ptAt a b c d ((↑i : Int) + 1)).1)) qa) = false → ∃ (i' : Nat), (i' ≤ 4 ∧ (cpV (rcG a b c d) 4 qa qb qc qd px
 py al e0 ix i').1 = false) ∧ 4 - i' < 4 - i ∧ ((Go.Fn.func 185 = Go.Fn.func 185 ∧ True ∧ (True ∧ 0 = 0) ∧ (True ∧ 0 = 0) ∧ (True ∧ 0 = 0) ∧ (True ∧ 0 = 0) ∧
 True) ∧ (True ∧ 0 = 0) ∧ (True ∧ 0 = 0) ∧ Go.IntKind.wrap .i64 ((↑i : Int) + 1) = (↑i' : Int) ∧ (4 : Int) = 4 ∧ Go.IntKind.wrap .i64 ((↑i : Int) + 1) = (↑i' : Int) ∧ True) ∧ True ∧ (px = px ∧ py
= py ∧ True) ∧ True ∧ (al = al ∧ True) ∧ True ∧ (3 = 3 ∧ 0 = 0 ∧ ((cpV (rcG a b c d) 4 qa qb qc qd px py al e0 ix i).2).2 = (Prod.snd
(cpV (rcG a b c d) 4 qa qb qc qd px py al e0 ix i')).2 ∧ True) ∧ True ∧ (4 = 4 ∧ 0 = 0 ∧ ((cpV (rcG a b c d) 4 qa
 qb qc qd px py al e0 ix i).2).1 = ((cpV (rcG a b c d) 4 qa qb qc qd px py al e0 ix i').2).1 ∧ True) ∧ True ∧ (102 = 102 ∧ 0 = 0 ∧ a = a ∧ b = b ∧ c = c ∧ d = d ∧
 True) ∧ True ∧ (102 = 102 ∧ 0 = 0 ∧ qa = qa ∧ qb = qb ∧ qc = qc ∧ qd = qd ∧ True) ∧ True)) ∧ (decide ((↑i : Int) < 4) = false → True ∧ True ∧ (3 = 3 ∧ 0 = 0 ∧ (Prod.snd
(cpV (rcG a b c d) 4 qa qb qc qd px py al e0 ix i)).2 = ((cpV (rcG a b c d) 4 qa qb qc qd px py al e0 ix 4).2).2 ∧ True) ∧ True ∧ (4 =
4 ∧ 0 = 0 ∧ ((cpV (rcG a b c d) 4 qa qb qc qd px py al e0 ix i).2).1 = ((cpV (rcG a b c d) 4 qa qb qc qd
 px py al e0 ix 4).2).1 ∧ True) ∧ True)) := by kernel_rfl
theorem rrCP : ConOk Tryz.prog 199 (conR rrCPC) := by
 refine con_of_vc gsrrCP Tryz.func199 rfl (by kernel_rfl) fun args => ?_
 unfold rrCPC
 split
 · rename_i a b c d qa qb qc qd p1 a1 x1 y1
   intro o0
   show RdM.All _ (match bxP o0.c with | some (px, py) => _ | none => _) _
   split
   · rename_i px py hm0
     intro o1
     show RdM.All _ (match bxB o1.c with | some al => _ | none => _) _
     split
     · rename_i al hm1
       intro o2
       show RdM.All _ (match rwOk o2 3 0 with | true => _ | false => _) _
       split
       · rename_i hrw2
         show RdM.All _ (match bxI o2.c with | some ix => _ | none => _) _
         split
         · rename_i ix hm2
           intro o3
           show RdM.All _ (match rwOk o3 4 0 with | true => _ | false => _) _
           split
           · rename_i hrw3
             show RdM.All _ (match bxB o3.c with | some e0 => _ | none => _) _
             split
             · rename_i e0 hm3
               intro ho
               replace ho : (W1 a ∧ W1 b ∧ W1 c ∧ W1 d) ∧ W1 px ∧ W1 py := ho
               refine ⟨?_, _, _, (vc_rrCP a b c d qa qb qc qd px py al e0 ix).mpr ?_⟩
               · refine okFlag_mk rfl ⟨?_, ⟨trivial, bxP_spec hm0, ⟨trivial, bxB_spec hm1, ⟨trivial, obR_rw hrw2 (bxI_spec hm2), ⟨trivial, obR_rw hrw3 (bxB_spec hm3), trivial⟩⟩⟩⟩⟩
                 simp [eqvRL, eqvR, fkEq_self, sgSig, fsts, nth, sameN_self]
               · obtain ⟨⟨ha, hb, hc, hd⟩, hx, hy⟩ := ho
                 have hg := sm_rcG ha hb hc hd
                 simp only [true_and, and_true, eq_self]
                 refine ⟨⟨0, by simp [cpV, cpR]⟩, fun i hi => ⟨fun h => ?_, fun h => ?_⟩⟩
                 · have h := of_decide_eq_true h
                   have hiN : i < 4 := by omega
                   have n1 := nx_lt (show i < 4 by omega)
                   have hw : IntKind.i64.wrap ((i : Int) + 1) = ((i + 1 : Nat) : Int) := by rw [wrap64 (by omega) (by omega)]; omega
                   have step : cpV (rcG a b c d) 4 qa qb qc qd px py al e0 ix (i + 1) = if (cpV (rcG a b c d) 4 qa qb qc qd px py al e0 ix i).1 = true ∨ mtF (rcG a b c d) 4 qa qb qc qd i = false then cpV (rcG a b c d) 4 qa qb qc qd px py al e0 ix i else if onS (rcG a b c d) 4 px py i = true then (true, al, (i : Int)) else (false, xor (cpV (rcG a b c d) 4 qa qb qc qd px py al e0 ix i).2.1 (lfS (rcG a b c d) 4 px py i), (cpV (rcG a b c d) 4 qa qb qc qd px py al e0 ix i).2.2) := rfl
                   rw [hw]
                   obtain ⟨e1, e2, e3, e4⟩ := pt_rcG a b c d hiN
                   rw [e1, e2, e3, e4]
                   refine ⟨⟨by omega, by omega⟩, fun hm => ⟨pw_of (hg _ (by omega)) (hg _ (by omega)) (hg _ (by omega)) (hg _ (by omega)) hx hy, fun ho => ?_, fun ho => ?_⟩, fun hm => ?_⟩
                   · have ho' : onS (rcG a b c d) 4 px py i = true := by unfold onS; simpa using ho
                     have hm' : mtF (rcG a b c d) 4 qa qb qc qd i = true := hm
                     have s1 : cpV (rcG a b c d) 4 qa qb qc qd px py al e0 ix (i + 1) = (true, al, (i : Int)) := by rw [step, if_neg (by simp [hi.2, hm']), if_pos ho']
                     have s2 : cpV (rcG a b c d) 4 qa qb qc qd px py al e0 ix 4 = cpV (rcG a b c d) 4 qa qb qc qd px py al e0 ix (i + 1) := cpR_stop (show (cpV (rcG a b c d) 4 qa qb qc qd px py al e0 ix (i + 1)).1 = true by rw [s1]) 4 (by omega)
                     rw [s2, s1]
                     unfold onS at ho'
                     rw [if_pos ho', if_pos ho']
                     simp
                   · have ho' : onS (rcG a b c d) 4 px py i = false := by unfold onS; simpa using ho
                     have hm' : mtF (rcG a b c d) 4 qa qb qc qd i = true := hm
                     have s1 : cpV (rcG a b c d) 4 qa qb qc qd px py al e0 ix (i + 1) = (false, xor (cpV (rcG a b c d) 4 qa qb qc qd px py al e0 ix i).2.1 (lfS (rcG a b c d) 4 px py i), (cpV (rcG a b c d) 4 qa qb qc qd px py al e0 ix i).2.2) := by rw [step, if_neg (by simp [hi.2, hm']), if_neg (by simp [ho'])]
                     refine ⟨i + 1, ⟨by omega, by rw [s1]⟩, by omega, ⟨rfl, rfl⟩, ?_⟩
                     rw [s1]
                     unfold onS at ho'
                     rw [if_neg (by rw [ho']; simp), if_neg (by rw [ho']; simp)]
                     simp [lfS]
                   · have hm' : mtF (rcG a b c d) 4 qa qb qc qd i = false := hm
                     have s1 : cpV (rcG a b c d) 4 qa qb qc qd px py al e0 ix (i + 1) = cpV (rcG a b c d) 4 qa qb qc qd px py al e0 ix i := by rw [step, if_pos (.inr hm')]
                     exact ⟨i + 1, ⟨by omega, by rw [s1]; exact hi.2⟩, by omega, ⟨rfl, rfl⟩, by rw [s1]; simp⟩
                 · have h := of_decide_eq_false h
                   have : i = 4 := by omega
                   subst this
                   simp
             · trivial
           · trivial
         · trivial
       · trivial
     · trivial
   · trivial
 · trivial
noncomputable def GsrrIS : Ctx := ⟨⟨tys, []⟩, [(203, pureCon rNumSF), (204, pureCon rSegAtF), (113, pureCon sRectF), (175, pureCon rMeetF), (209, conR isCC)]⟩
theorem gsrrIS : CtxOk Tryz.prog GsrrIS := ⟨⟨tysOk, FlatsOk.nil⟩, GamOk.cons (.pure rNumS) (GamOk.cons (.pure rSegAt) (GamOk.cons (.pure sRect) (GamOk.cons (.pure rMeet) (GamOk.cons isC GamOk.nil)))), by kernel_rfl⟩
noncomputable def LrrIS (a b c d : Nat) (qa qb qc qd : Nat) (ax ay bx by' : Nat) (al ao bo : Bool) : Fam := ⟨Nat, fun i =>
 ⟨31, [(2, .fn (.func 209) [] [.ptr 0 0, .ptr 1 0, .ptr 2 0, .ptr 3 0, .ptr 4 0]), (3, .ptr 5 0), (4, .ptr 6 0), (6, .int .i64 i), (7, .int .i64 4), (8, .int .i64 i)], [(0, ⟨false, 111, bx4C ax ay bx by', 0⟩), (1, ⟨false, 4, bxBC al, 0⟩), (2, ⟨true, 4, bxBC (isV (rcG a b c d) 4 qa qb qc qd ax ay bx by' al ao bo i).2.1, 0⟩), (3, ⟨true, 4, bxBC (isV (rcG a b c d) 4 qa qb qc qd ax ay bx by' al ao bo i).2.2.1, 0⟩), (4, ⟨true, 3, bxIC (isV (rcG a b c d) 4 qa qb qc qd ax ay bx by' al ao bo i).2.2.2, 0⟩), (5, ⟨true, 102, .cells (qC a b c d), 0⟩), (6, ⟨true, 102, .cells (qC qa qb qc qd), 0⟩)], 7⟩, fun i => i ≤ 4 ∧ (isV (rcG a b c d) 4 qa qb qc qd ax ay bx by' al ao bo i).1 = true, fun i => 4 - i⟩
noncomputable def rrISC : List SV → RdM
 | [.agg [.flt .f64 a, .flt .f64 b, .flt .f64 c, .flt .f64 d], .agg [.flt .f64 qa, .flt .f64 qb, .flt .f64 qc, .flt .f64 qd], .fn (.func 209) [] [.ptr p1 0, .ptr a1 0, .ptr x1 0, .ptr y1 0, .ptr z1 0]] => .read p1 fun o0 => (match bx4 o0.c with
   | some (ax, ay, bx, by') => .read a1 fun o1 => (match bxB o1.c with
   | some al => .read x1 fun o2 => (match rwOk o2 4 0 with
   | true => (match bxB o2.c with
   | some ao => .read y1 fun o3 => (match rwOk o3 4 0 with
   | true => (match bxB o3.c with
   | some bo => .read z1 fun o4 => (match rwOk o4 3 0 with
   | true => (match bxI o4.c with
   | some ct => .ret ⟨[.agg [.flt .f64 a, .flt .f64 b, .flt .f64 c, .flt .f64 d], .agg [.flt .f64 qa, .flt .f64 qb, .flt .f64 qc, .flt .f64 qd], .fn (.func 209) [] [.ptr 0 0, .ptr 1 0, .ptr 2 0, .ptr 3 0, .ptr 4 0]], [(0, ⟨false, 111, bx4C ax ay bx by', 0⟩), (1, ⟨false, 4, bxBC al, 0⟩), (2, ⟨true, 4, bxBC ao, 0⟩), (3, ⟨true, 4, bxBC bo, 0⟩), (4, ⟨true, 3, bxIC ct, 0⟩)], .tup [], [(2, ⟨true, 4, bxBC (isV (rcG a b c d) 4 qa qb qc qd ax ay bx by' al ao bo 4).2.1, 0⟩), (3, ⟨true, 4, bxBC (isV (rcG a b c d) 4 qa qb qc qd ax ay bx by' al ao bo 4).2.2.1, 0⟩), (4, ⟨true, 3, bxIC (isV (rcG a b c d) 4 qa qb qc qd ax ay bx by' al ao bo 4).2.2.2, 0⟩)], [], some ((W1 a ∧ W1 b ∧ W1 c ∧ W1 d) ∧ (W1 ax ∧ W1 ay ∧ W1 bx ∧ W1 by') ∧ ct = 0)⟩
   | none => .fail)
   | false => .fail)
   | none => .fail)
   | false => .fail)
   | none => .fail)
   | false => .fail)
   | none => .fail)
   | none => .fail)
 | _ => .fail
theorem vc_rrIS (a b c d : Nat) (qa qb qc qd : Nat) (ax ay bx by' : Nat) (al ao bo : Bool) (ct : Int) : runA GsrrIS 5 [(4, LrrIS a b c d qa qb qc qd ax ay bx by' al ao bo)] [] (codeOf Tryz.f199) (init Tryz.f199.ntmps [.agg [.flt .f64 a, .flt .f64 b, .flt .f64 c, .flt .f64 d], .agg [.flt .f64 qa, .flt .f64 qb, .flt .f64 qc, .flt .f64 qd], .fn (.func 209) [] [.ptr 0 0, .ptr 1 0, .ptr 2 0, .ptr 3 0, .ptr 4 0]] [(0, ⟨false, 111, bx4C ax ay bx by', 0⟩), (1, ⟨false, 4, bxBC al, 0⟩), (2, ⟨true, 4, bxBC ao, 0⟩), (3, ⟨true, 4, bxBC bo, 0⟩), (4, ⟨true, 3, bxIC ct, 0⟩)] 5) (endK GsrrIS.E.T Tryz.f199.results.toList fun S v => postP 5 ⟨[.agg [.flt .f64 a, .flt .f64 b, .flt .f64 c, .flt .f64 d], .agg [.flt .f64 qa, .flt .f64 qb, .flt .f64 qc, .flt .f64 qd], .fn (.func 209) [] [.ptr 0 0, .ptr 1 0, .ptr 2 0, .ptr 3 0, .ptr 4 0]], [(0, ⟨false, 111, bx4C ax ay bx by', 0⟩), (1, ⟨false, 4, bxBC al, 0⟩), (2, ⟨true, 4, bxBC ao, 0⟩), (3, ⟨true, 4, bxBC bo, 0⟩), (4, ⟨true, 3, bxIC ct, 0⟩)], .tup [], [(2, ⟨true, 4, bxBC (isV (rcG a b c d) 4 qa qb qc qd ax ay bx by' al ao bo 4).2.1, 0⟩), (3, ⟨true, 4, bxBC (isV (rcG a b c d) 4 qa qb qc qd ax ay bx by' al ao bo 4).2.2.1, 0⟩), (4, ⟨true, 3, bxIC (isV (rcG a b c d) 4 qa qb qc qd ax ay bx by' al ao bo 4).2.2.2, 0⟩)], [], some ((W1 a ∧ W1 b ∧ W1 c ∧ W1 d) ∧ (W1 ax ∧ W1 ay ∧ W1 bx ∧ W1 by') ∧ ct = 0)⟩ S v) = (
(∃ (i : Nat), (i ≤ 4 ∧ (isV (rcG a b c d) 4 qa qb qc qd ax ay bx by' al ao bo i).1 = true) ∧ ((Go.Fn.func 209 = Go.Fn.func 209 ∧ True ∧ (True ∧ 0 = 0) ∧ (True
∧ 0 = 0) ∧ (True ∧ 0 = 0) ∧ (True ∧ 0 = 0) ∧ (True ∧ 0 = 0) ∧ True) ∧ (True ∧ 0 = 0) ∧ (True ∧ 0 = 0) ∧ 0 = (↑i : Int) ∧ (4 : Int) = 4 ∧
0 = (↑i : Int) ∧ True) ∧ True ∧ (ax = ax ∧ ay = ay ∧ bx = bx ∧ by' = by' ∧ True) ∧ True ∧ (al = al ∧ True) ∧ True ∧ (4 = 4 ∧ 0 = 0 ∧ ao = ((isV (rcG a b c
 d) 4 qa qb qc qd ax ay bx by' al ao bo i).2).1 ∧ True) ∧ True ∧ (4 = 4 ∧ 0 = 0 ∧ bo = (((isV (rcG a b c d) 4 qa qb qc qd ax ay bx by' al ao bo
 i).2).2).1 ∧ True) ∧ True ∧ (3 = 3 ∧ 0 = 0 ∧ ct = (((isV (rcG a b c d) 4 qa qb qc qd ax ay bx by' al ao bo i).2).2).2 ∧ True) ∧ True ∧ (102 = 102 ∧ 0 = 0 ∧ a = a ∧ b = b ∧ c = c ∧ d = d ∧ True) ∧ True ∧ (102 = 102 ∧ 0 = 0 ∧ qa = qa ∧ qb = qb ∧ qc = qc ∧ qd = qd ∧ True) ∧ True) ∧ ∀ (i : Nat), i ≤ 4 ∧ (isV
(rcG a b c d) 4 qa qb qc qd ax ay bx by' al ao bo i).1 = true → (decide ((↑i : Int) < 4) = true → (0 ≤ (↑i : Int) ∧ (↑i : Int) ≤ 3) ∧ true = true ∧ ((!fGt .f64 (fmin (Prod.snd
(ptAt a b c d (↑i : Int))) ((ptAt a b c d ((↑i : Int) + 1)).2)) qd && !fLt .f64 (fmax ((ptAt a b c d (↑i : Int)).2) ((ptAt
 a b c d ((↑i : Int) + 1)).2)) qb && !fGt .f64 (fmin ((ptAt a b c d (↑i : Int)).1) ((ptAt a b c d ((↑i : Int) + 1)).1)) qc && !fLt .f64
(fmax ((ptAt a b c d (↑i : Int)).1) ((ptAt a b c d ((↑i : Int) + 1)).1)) qa) = true → (W8 ax ay bx by' ((ptAt a b c d (↑i :
 Int)).1) ((ptAt a b c d (↑i : Int)).2) ((ptAt a b c d ((↑i : Int) + 1)).1) ((ptAt a b c d ((↑i : Int) + 1)).2) ∧ (0 : Int) ≤ ((Prod.snd
(isV (rcG a b c d) 4 qa qb qc qd ax ay bx by' al ao bo i)).2).2 ∧ (((isV (rcG a b c d) 4 qa qb qc qd ax ay bx by' al ao bo i).2).2).2 ≤ (1000000
: Int)) ∧ ((!(isStp ax ay bx by' ((ptAt a b c d (↑i : Int)).1) ((ptAt a b c d (↑i : Int)).2) ((ptAt a b c d ((↑i : Int) + 1)).1) (Prod.snd
(ptAt a b c d ((↑i : Int) + 1))) al (((isV (rcG a b c d) 4 qa qb qc qd ax ay bx by' al ao bo i).2).1) ((((isV
(rcG a b c d) 4 qa qb qc qd ax ay bx by' al ao bo i).2).2).1) ((((isV (rcG a b c d) 4 qa qb qc qd ax ay bx by' al ao bo i).2).2).2)).1) = true → True ∧ True ∧ (4 = 4 ∧ 0 = 0 ∧ ((isStp ax ay bx by' ((ptAt a b c d (↑i : Int)).1) ((ptAt a b c d (↑i : Int)).2) ((ptAt a b c
 d ((↑i : Int) + 1)).1) ((ptAt a b c d ((↑i : Int) + 1)).2) al (((isV (rcG a b c d) 4 qa qb qc qd ax ay bx by' al ao bo i).2).1) ((Prod.snd
((isV (rcG a b c d) 4 qa qb qc qd ax ay bx by' al ao bo i).2)).1) ((((isV (rcG a b c d) 4 qa qb qc qd ax ay bx by' al ao bo
 i).2).2).2)).2).1 = ((isV (rcG a b c d) 4 qa qb qc qd ax ay bx by' al ao bo 4).2).1 ∧ True) ∧ True ∧ (4 = 4 ∧ 0 = 0 ∧ ((Prod.snd
(isStp ax ay bx by' ((ptAt a b c d (↑i : Int)).1) ((ptAt a b c d (↑i : Int)).2) ((ptAt a b c d ((↑i : Int) + 1)).1) ((ptAt
 a b c d ((↑i : Int) + 1)).2) al (((isV (rcG a b c d) 4 qa qb qc qd ax ay bx by' al ao bo i).2).1) ((((isV (rcG a b c d) 4 qa qb qc qd ax ay bx by' al ao bo i).2).2).1) ((((isV (rcG a b c d) 4 qa qb qc qd ax ay bx by' al ao bo i).2).2).2))).2).1 = (((isV
(rcG a b c d) 4 qa qb qc qd ax ay bx by' al ao bo 4).2).2).1 ∧ True) ∧ True ∧ (3 = 3 ∧ 0 = 0 ∧ (((isStp ax ay bx by' (Prod.fst
(ptAt a b c d (↑i : Int))) ((ptAt a b c d (↑i : Int)).2) ((ptAt a b c d ((↑i : Int) + 1)).1) ((ptAt a b c d ((↑i : Int) + 1)).2) al (Prod.fst
((isV (rcG a b c d) 4 qa qb qc qd ax ay bx by' al ao bo i).2)) ((((isV (rcG a b c d) 4 qa qb qc qd ax ay bx by' al ao bo i).2).2).1)
((((isV (rcG a b c d) 4 qa qb qc qd ax ay bx by' al ao bo i).2).2).2)).2).2).2 = (((isV (rcG a b c d) 4 qa qb qc qd ax
 ay bx by' al ao bo 4).2).2).2 ∧ True) ∧ True) ∧ ((!(isStp ax ay bx by' ((ptAt a b c d (↑i : Int)).1) ((ptAt a b c d (↑i : Int)).2) ((ptAt a b c
 d ((↑i : Int) + 1)).1) ((ptAt a b c d ((↑i : Int) + 1)).2) al (((isV (rcG a b c d) 4 qa qb qc qd ax ay bx by' al ao bo i).2).1) ((Prod.snd
((isV (rcG a b c d) 4 qa qb qc qd ax ay bx by' al ao bo i).2)).1) ((((isV (rcG a b c d) 4 qa qb qc qd ax ay bx by' al ao bo
 i).2).2).2)).1) = false → ∃ (i' : Nat), (i' ≤ 4 ∧ (isV (rcG a b c d) 4 qa qb qc qd ax ay bx by' al ao bo i').1 = true) ∧ 4 - i' < 4 - i ∧ ((Go.Fn.func 209 = Go.Fn.func 209 ∧ True ∧ (True ∧ 0 = 0) ∧ (True ∧ 0 = 0) ∧ (True ∧ 0 = 0) ∧ (True ∧ 0 = 0) ∧ (True ∧ 0 = 0) ∧ True) ∧ (True ∧ 0 = 0) ∧ (True ∧ 0 = 0)
∧ Go.IntKind.wrap .i64 ((↑i : Int) + 1) = (↑i' : Int) ∧ (4 : Int) = 4 ∧ Go.IntKind.wrap .i64 ((↑i : Int) + 1) = (↑i' : Int) ∧ True) ∧ True ∧ (ax = ax ∧ ay = ay ∧ bx = bx ∧ by' = by' ∧ True) ∧ True ∧ (al = al ∧ True) ∧ True ∧
(4 = 4 ∧ 0 = 0 ∧ ((isStp ax ay bx by' ((ptAt a b c d (↑i : Int)).1) ((ptAt a b c d (↑i : Int)).2) ((ptAt
 a b c d ((↑i : Int) + 1)).1) ((ptAt a b c d ((↑i : Int) + 1)).2) al (((isV (rcG a b c d) 4 qa qb qc qd ax ay bx by' al ao bo i).2).1) ((Prod.snd
((isV (rcG a b c d) 4 qa qb qc qd ax ay bx by' al ao bo i).2)).1) ((((isV (rcG a b c d) 4 qa qb qc qd ax ay bx by' al ao bo
 i).2).2).2)).2).1 = ((isV (rcG a b c d) 4 qa qb qc qd ax ay bx by' al ao bo i').2).1 ∧ True) ∧ True ∧ (4 = 4 ∧ 0 = 0 ∧ ((Prod.snd
(isStp ax ay bx by' ((ptAt a b c d (↑i : Int)).1) ((ptAt a b c d (↑i : Int)).2) ((ptAt a b c d ((↑i : Int) + 1)).1) ((ptAt
 a b c d ((↑i : Int) + 1)).2) al (((isV (rcG a b c d) 4 qa qb qc qd ax ay bx by' al ao bo i).2).1) ((((isV (rcG a b c d) 4 qa qb qc qd ax ay bx by' al ao bo i).2).2).1) ((((isV (rcG a b c d) 4 qa qb qc qd ax ay bx by' al ao bo i).2).2).2))).2).1 = (((isV
(rcG a b c d) 4 qa qb qc qd ax ay bx by' al ao bo i').2).2).1 ∧ True) ∧ True ∧ (3 = 3 ∧ 0 = 0 ∧ (((isStp ax ay bx by' ((ptAt a
 b c d (↑i : Int)).1) ((ptAt a b c d (↑i : Int)).2) ((ptAt a b c d ((↑i : Int) + 1)).1) ((ptAt a b c d ((↑i : Int) + 1)).2) al ((Prod.snd
(isV (rcG a b c d) 4 qa qb qc qd ax ay bx by' al ao bo i)).1) ((((isV (rcG a b c d) 4 qa qb qc qd ax ay bx by' al ao bo i).2).2).1) (Prod.snd
(((isV (rcG a b c d) 4 qa qb qc qd ax ay bx by' al ao bo i).2).2))).2).2).2 = (((isV (rcG a b c d) 4 qa qb qc qd ax ay bx by'
 al ao bo i').2).2).2 ∧ True) ∧ True ∧ (102 = 102 ∧ 0 = 0 ∧ a = a ∧ b = b ∧ c = c ∧ d = d ∧ True) ∧ True ∧ (102 = 102 ∧ 0 = 0 ∧ qa = qa ∧ qb = qb ∧ qc = qc ∧ qd = qd ∧ True) ∧ True)) ∧
((!fGt .f64 (fmin ((ptAt a b c d (↑i : Int)).2) ((ptAt a b c d ((↑i : Int) + 1)).2)) qd && !fLt .f64 (fmax ((ptAt a b
 c d (↑i : Int)).2) ((ptAt a b c d ((↑i : Int) + 1)).2)) qb && !fGt .f64 (fmin ((ptAt a b c d (↑i : Int)).1) ((ptAt a b c d ((↑i : Int) + (1 :
 Int))).1)) qc && !fLt .f64 (fmax ((ptAt a b c d (↑i : Int)).1) ((ptAt a b c d ((↑i : Int) + 1)).1)) qa) = false → ∃ (i' : Nat), (i' ≤ 4 ∧ Prod.fst
(isV (rcG a b c d) 4 qa qb qc qd ax ay bx by' al ao bo i') = true) ∧ 4 - i' < 4 - i ∧ ((Go.Fn.func 209 = Go.Fn.func 209 ∧ True ∧ (True ∧ 0 = 0) ∧ (True ∧ 0 = 0) ∧ (True ∧ 0 = 0) ∧ (True ∧ 0 = 0) ∧ (True ∧ 0 = 0) ∧ True) ∧ (True ∧ 0 = 0) ∧ (True ∧ 0 = 0) ∧ Go.IntKind.wrap .i64 ((↑i : Int) + 1) = (↑i' :
 Int) ∧ (4 : Int) = 4 ∧ Go.IntKind.wrap .i64 ((↑i : Int) + 1) = (↑i' : Int) ∧ True) ∧ True ∧ (ax = ax ∧ ay = ay ∧ bx = bx ∧ by' = by' ∧ True) ∧ True ∧ (al = al ∧ True) ∧ True ∧ (4 = 4 ∧ 0 = 0 ∧ Prod.fst
((isV (rcG a b c d) 4 qa qb qc qd ax ay bx by' al ao bo i).2) = ((isV (rcG a b c d) 4 qa qb qc qd ax ay bx by' al ao bo i').2).1 ∧ True) ∧
 True ∧ (4 = 4 ∧ 0 = 0 ∧ (((isV (rcG a b c d) 4 qa qb qc qd ax ay bx by' al ao bo i).2).2).1 = (((isV
(rcG a b c d) 4 qa qb qc qd ax ay bx by' al ao bo i').2).2).1 ∧ True) ∧ True ∧ (3 = 3 ∧ 0 = 0 ∧ (((isV (rcG a b c d) 4 qa qb qc
 qd ax ay bx by' al ao bo i).2).2).2 = (((isV (rcG a b c d) 4 qa qb qc qd ax ay bx by' al ao bo i').2).2).2 ∧ True) ∧ True ∧ (102 = 102 ∧ 0 = 0 ∧ a = a ∧ b = b
∧ c = c ∧ d = d ∧ True) ∧ True ∧ (102 = 102 ∧ 0 = 0 ∧ qa = qa ∧ qb = qb ∧ qc = qc ∧ qd = qd ∧ True) ∧ True)) ∧ (decide ((↑i : Int) < 4) = false → True ∧ True ∧ (4 = 4 ∧ 0 = 0 ∧
 ((isV (rcG a b c d) 4 qa qb qc qd ax ay bx by' al ao bo i).2).1 = ((isV (rcG a b c d) 4 qa qb qc qd ax ay bx by' al ao bo 4).2).1 ∧ True) ∧ True ∧ (4 = 4 ∧ 0 = 0 ∧ (((isV (rcG a b c d) 4 qa qb qc qd ax ay bx by' al ao bo i).2).2).1 = ((Prod.snd
(isV (rcG a b c d) 4 qa qb qc qd ax ay bx by' al ao bo 4)).2).1 ∧ True) ∧ True ∧ (3 = 3 ∧ 0 = 0 ∧ (((isV
(rcG a b c d) 4 qa qb qc qd ax ay bx by' al ao bo i).2).2).2 = (((isV (rcG a b c d) 4 qa qb qc qd ax ay bx by' al ao bo 4).2).2).2 ∧ True) ∧ True)) := by kernel_rfl
theorem rrIS : ConOk Tryz.prog 199 (conR rrISC) := by
 refine con_of_vc gsrrIS Tryz.func199 rfl (by kernel_rfl) fun args => ?_
 unfold rrISC
 split
 · rename_i a b c d qa qb qc qd p1 a1 x1 y1 z1
   intro o0
   show RdM.All _ (match bx4 o0.c with | some (ax, ay, bx, by') => _ | none => _) _
   split
   · rename_i ax ay bx by' hm0
     intro o1
     show RdM.All _ (match bxB o1.c with | some al => _ | none => _) _
     split
     · rename_i al hm1
       intro o2
       show RdM.All _ (match rwOk o2 4 0 with | true => _ | false => _) _
       split
       · rename_i hrw2
         show RdM.All _ (match bxB o2.c with | some ao => _ | none => _) _
         split
         · rename_i ao hm2
           intro o3
           show RdM.All _ (match rwOk o3 4 0 with | true => _ | false => _) _
           split
           · rename_i hrw3
             show RdM.All _ (match bxB o3.c with | some bo => _ | none => _) _
             split
             · rename_i bo hm3
               intro o4
               show RdM.All _ (match rwOk o4 3 0 with | true => _ | false => _) _
               split
               · rename_i hrw4
                 show RdM.All _ (match bxI o4.c with | some ct => _ | none => _) _
                 split
                 · rename_i ct hm4
                   intro ho
                   replace ho : (W1 a ∧ W1 b ∧ W1 c ∧ W1 d) ∧ (W1 ax ∧ W1 ay ∧ W1 bx ∧ W1 by') ∧ ct = 0 := ho
                   refine ⟨?_, _, _, (vc_rrIS a b c d qa qb qc qd ax ay bx by' al ao bo ct).mpr ?_⟩
                   · refine okFlag_mk rfl ⟨?_, ⟨trivial, bx4_spec hm0, ⟨trivial, bxB_spec hm1, ⟨trivial, obR_rw hrw2 (bxB_spec hm2), ⟨trivial, obR_rw hrw3 (bxB_spec hm3), ⟨trivial, obR_rw hrw4 (bxI_spec hm4), trivial⟩⟩⟩⟩⟩⟩
                     simp [eqvRL, eqvR, fkEq_self, sgSig, fsts, nth, sameN_self]
                   · obtain ⟨⟨ha, hb, hc, hd⟩, ⟨h1, h2, h3, h4⟩, hct⟩ := ho
                     have hg := sm_rcG ha hb hc hd
                     simp only [true_and, and_true, eq_self]
                     refine ⟨⟨0, by simp [isV, isR, hct]⟩, fun i hi => ⟨fun h => ?_, fun h => ?_⟩⟩
                     · have h := of_decide_eq_true h
                       have hiN : i < 4 := by omega
                       have n1 := nx_lt (show i < 4 by omega)
                       have hw : IntKind.i64.wrap ((i : Int) + 1) = ((i + 1 : Nat) : Int) := by rw [wrap64 (by omega) (by omega)]; omega
                       have step : isV (rcG a b c d) 4 qa qb qc qd ax ay bx by' al ao bo (i + 1) = if (isV (rcG a b c d) 4 qa qb qc qd ax ay bx by' al ao bo i).1 = false ∨ mtF (rcG a b c d) 4 qa qb qc qd i = false then isV (rcG a b c d) 4 qa qb qc qd ax ay bx by' al ao bo i else isStp ax ay bx by' (rcG a b c d (2 * i)) (rcG a b c d (2 * i + 1)) (rcG a b c d (2 * nx 4 i)) (rcG a b c d (2 * nx 4 i + 1)) al (isV (rcG a b c d) 4 qa qb qc qd ax ay bx by' al ao bo i).2.1 (isV (rcG a b c d) 4 qa qb qc qd ax ay bx by' al ao bo i).2.2.1 (isV (rcG a b c d) 4 qa qb qc qd ax ay bx by' al ao bo i).2.2.2 := rfl
                       have hcb : 0 ≤ (isV (rcG a b c d) 4 qa qb qc qd ax ay bx by' al ao bo i).2.2.2 ∧ (isV (rcG a b c d) 4 qa qb qc qd ax ay bx by' al ao bo i).2.2.2 ≤ i := isR_ct i
                       rw [hw]
                       obtain ⟨e1, e2, e3, e4⟩ := pt_rcG a b c d hiN
                       rw [e1, e2, e3, e4]
                       refine ⟨⟨by omega, by omega⟩, fun hm => ?_, fun hm => ?_⟩
                       · have hm' : mtF (rcG a b c d) 4 qa qb qc qd i = true := hm
                         have s1 : isV (rcG a b c d) 4 qa qb qc qd ax ay bx by' al ao bo (i + 1) = isStp ax ay bx by' (rcG a b c d (2 * i)) (rcG a b c d (2 * i + 1)) (rcG a b c d (2 * nx 4 i)) (rcG a b c d (2 * nx 4 i + 1)) al (isV (rcG a b c d) 4 qa qb qc qd ax ay bx by' al ao bo i).2.1 (isV (rcG a b c d) 4 qa qb qc qd ax ay bx by' al ao bo i).2.2.1 (isV (rcG a b c d) 4 qa qb qc qd ax ay bx by' al ao bo i).2.2.2 := by rw [step, if_neg (by simp [hi.2, hm'])]
                         rw [← s1]
                         refine ⟨⟨⟨⟨h1, h2, h3, h4⟩, hg _ (by omega), hg _ (by omega), hg _ (by omega), hg _ (by omega)⟩, hcb.1, by omega⟩, fun ho => ?_, fun ho => ?_⟩
                         · have ho' : (isV (rcG a b c d) 4 qa qb qc qd ax ay bx by' al ao bo (i + 1)).1 = false := by simpa using ho
                           have s2 : isV (rcG a b c d) 4 qa qb qc qd ax ay bx by' al ao bo 4 = isV (rcG a b c d) 4 qa qb qc qd ax ay bx by' al ao bo (i + 1) := isR_stop ho' 4 (by omega)
                           rw [s2]
                           simp
                         · have ho' : (isV (rcG a b c d) 4 qa qb qc qd ax ay bx by' al ao bo (i + 1)).1 = true := by simpa using ho
                           exact ⟨i + 1, ⟨by omega, ho'⟩, by omega, ⟨rfl, rfl⟩, by simp⟩
                       · have hm' : mtF (rcG a b c d) 4 qa qb qc qd i = false := hm
                         have s1 : isV (rcG a b c d) 4 qa qb qc qd ax ay bx by' al ao bo (i + 1) = isV (rcG a b c d) 4 qa qb qc qd ax ay bx by' al ao bo i := by rw [step, if_pos (.inr hm')]
                         exact ⟨i + 1, ⟨by omega, by rw [s1]; exact hi.2⟩, by omega, ⟨rfl, rfl⟩, by rw [s1]; simp⟩
                     · have h := of_decide_eq_false h
                       have : i = 4 := by omega
                       subst this
                       simp
                 · trivial
               · trivial
             · trivial
           · trivial
         · trivial
       · trivial
     · trivial
   · trivial
 · trivial
def ifcIs (t : Nat) : List SV → Bool
 | .ifc u _ :: _ => Nat.beq u t
 | _ => false
noncomputable def Gcb : Ctx := ⟨⟨tys, []⟩, [(172, conR srCPC)]⟩
theorem gcb : CtxOk Tryz.prog Gcb := ⟨⟨tysOk, FlatsOk.nil⟩, GamOk.cons srCP GamOk.nil, by kernel_rfl⟩
noncomputable def rcpBC : List SV → RdM
 | [.agg [.flt .f64 qa, .flt .f64 qb, .flt .f64 qc, .flt .f64 qd], .ptr s 0, .agg [.flt .f64 px, .flt .f64 py], v] => .read s fun o0 => (match serOf o0.c with
   | some (cl, cw, cv, k, x, y, z, w, p, n) => .read p fun o1 => (match fltsFrom .f64 o1.c with
   | some (m1, g) => (match v.toB with
   | some al => .ret ⟨[.agg [.flt .f64 qa, .flt .f64 qb, .flt .f64 qc, .flt .f64 qd], .ptr 0 0, .agg [.flt .f64 px, .flt .f64 py], .bool al], [(0, ⟨false, 150, serC cl cw cv k x y z w 1 n, 0⟩), (1, ⟨false, 100, .flts .f64 m1 g, 0⟩)], .tup [.bool (cpV g n qa qb qc qd px py al false (-1) (nsg cl n (wz g))).2.1, .int .i64 (cpV g n qa qb qc qd px py al false (-1) (nsg cl n (wz g))).2.2], [], [], some (m1 = 2 * n ∧ n ≤ 1000000 ∧ SmF g (2 * n) ∧ W1 px ∧ W1 py)⟩
   | none => .fail)
   | none => .fail)
   | none => .fail)
 | _ => .fail
theorem vc_rcpB (cl cw cv : Bool) (k : Int) (x y z w : Nat) (_ : Nm) (n : Nat) (qa qb qc qd px py : Nat) (al : Bool)  (g : Nat → Nat) : runA Gcb 2 [] [] (codeOf Tryz.f179) (init Tryz.f179.ntmps [.agg [.flt .f64 qa, .flt .f64 qb, .flt .f64 qc, .flt .f64 qd], .ptr 0 0, .agg [.flt .f64 px, .flt .f64 py], .bool al] [(0, ⟨false, 150, serC cl cw cv k x y z w 1 n, 0⟩), (1, ⟨false, 100, .flts .f64 (2 * n) g, 0⟩)] 2) (endK Gcb.E.T Tryz.f179.results.toList fun S v => postP 2 ⟨[.agg [.flt .f64 qa, .flt .f64 qb, .flt .f64 qc, .flt .f64 qd], .ptr 0 0, .agg [.flt .f64 px, .flt .f64 py], .bool al], [(0, ⟨false, 150, serC cl cw cv k x y z w 1 n, 0⟩), (1, ⟨false, 100, .flts .f64 (2 * n) g, 0⟩)], .tup [.bool (cpV g n qa qb qc qd px py al false (-1) (nsg cl n (wz g))).2.1, .int .i64 (cpV g n qa qb qc qd px py al false (-1) (nsg cl n (wz g))).2.2], [], [], some (2 * n = 2 * n ∧ n ≤ 1000000 ∧ SmF g (2 * n) ∧ W1 px ∧ W1 py)⟩ S v) = (
(2 * n = 2 * n ∧ n ≤ 1000000 ∧ SmF g (2 * n) ∧ W1 px ∧ W1 py) ∧ true = true ∧ (((cpV g n qa qb qc qd px py al false (-1 : Int)
(nsg cl n (wz g))).2).1 = ((cpV g n qa qb qc qd px py al false (-1 : Int) (nsg cl n (wz g))).2).1 ∧ ((cpV g n qa
 qb qc qd px py al false (-1 : Int) (nsg cl n (wz g))).2).2 = ((cpV g n qa qb qc qd px py al false (-1 : Int) (nsg cl n (wz g))).2).2 ∧ True) ∧ True) := by kernel_rfl
theorem rcpB : ConOk Tryz.prog 179 (conR rcpBC) := by
 refine con_of_vc gcb Tryz.func179 rfl (by kernel_rfl) fun args => ?_
 unfold rcpBC
 split
 · rename_i qa qb qc qd s px py v
   intro o0
   show RdM.All _ (match serOf o0.c with | some (cl, cw, cv, k, x, y, z, w, p, n) => _ | none => _) _
   split
   · rename_i cl cw cv k x y z w p n hm0
     intro o1
     show RdM.All _ (match fltsFrom .f64 o1.c with | some (m, g) => _ | none => _) _
     split
     · rename_i m1 g hm1
       show RdM.All _ (match v.toB with | some b => _ | none => _) _
       split
       · rename_i al hal
         intro ho
         replace ho : m1 = 2 * n ∧ n ≤ 1000000 ∧ SmF g (2 * n) ∧ W1 px ∧ W1 py := ho
         obtain ⟨hsz1, ho⟩ := ho
         subst hsz1
         refine ⟨?_, _, _, (vc_rcpB cl cw cv k x y z w p n qa qb qc qd px py al g).mpr ?_⟩
         · refine okFlag_mk rfl ⟨?_, ⟨trivial, serOf_spec hm0 (by simp [sgSig, fsts, nth, sameN_self]), ⟨trivial, (contR_flts hm1).1, trivial⟩⟩⟩
           simp [eqvRL, eqvR, fkEq_self, sgSig, fsts, nth, sameN_self, toB_eqvR hal]
         · simp [ho]
       · trivial
     · trivial
   · trivial
 · trivial
noncomputable def Gcg : Ctx := ⟨⟨tys, []⟩, [(199, conR rrCPC)]⟩
theorem gcg : CtxOk Tryz.prog Gcg := ⟨⟨tysOk, FlatsOk.nil⟩, GamOk.cons rrCP GamOk.nil, by kernel_rfl⟩
noncomputable def rcpGC : List SV → RdM
 | [.agg [.flt .f64 qa, .flt .f64 qb, .flt .f64 qc, .flt .f64 qd], .ifc 102 (.agg [.flt .f64 a, .flt .f64 b, .flt .f64 c, .flt .f64 d]), .agg [.flt .f64 px, .flt .f64 py], v] => (match v.toB with
   | some al => .ret ⟨[.agg [.flt .f64 qa, .flt .f64 qb, .flt .f64 qc, .flt .f64 qd], .ifc 102 (.agg [.flt .f64 a, .flt .f64 b, .flt .f64 c, .flt .f64 d]), .agg [.flt .f64 px, .flt .f64 py], .bool al], [], .tup [.bool (cpV (rcG a b c d) 4 qa qb qc qd px py al false (-1) 4).2.1, .int .i64 (cpV (rcG a b c d) 4 qa qb qc qd px py al false (-1) 4).2.2], [], [], some ((W1 a ∧ W1 b ∧ W1 c ∧ W1 d) ∧ W1 px ∧ W1 py)⟩
   | none => .fail)
 | _ => .fail
theorem vc_rcpG (a b c d qa qb qc qd px py : Nat) (al : Bool) : runA Gcg 0 [] [] (codeOf Tryz.f180) (init Tryz.f180.ntmps [.agg [.flt .f64 qa, .flt .f64 qb, .flt .f64 qc, .flt .f64 qd], .ifc 102 (.agg [.flt .f64 a, .flt .f64 b, .flt .f64 c, .flt .f64 d]), .agg [.flt .f64 px, .flt .f64 py], .bool al] [] 0) (endK Gcg.E.T Tryz.f180.results.toList fun S v => postP 0 ⟨[.agg [.flt .f64 qa, .flt .f64 qb, .flt .f64 qc, .flt .f64 qd], .ifc 102 (.agg [.flt .f64 a, .flt .f64 b, .flt .f64 c, .flt .f64 d]), .agg [.flt .f64 px, .flt .f64 py], .bool al], [], .tup [.bool (cpV (rcG a b c d) 4 qa qb qc qd px py al false (-1) 4).2.1, .int .i64 (cpV (rcG a b c d) 4 qa qb qc qd px py al false (-1) 4).2.2], [], [], some ((W1 a ∧ W1 b ∧ W1 c ∧ W1 d) ∧ W1 px ∧ W1 py)⟩ S v) = (
((W1 a ∧ W1 b ∧ W1 c ∧ W1 d) ∧ W1 px ∧ W1 py) ∧ true = true ∧ (((cpV (rcG a b c d) 4 qa qb qc qd px py al false (-1 : Int) 4).2).1 = ((cpV (rcG a b c d) 4 qa qb qc qd px py al false (-1 : Int) 4).2).1 ∧ ((cpV
(rcG a b c d) 4 qa qb qc qd px py al false (-1 : Int) 4).2).2 = ((cpV (rcG a b c d) 4 qa qb qc qd px py al false (-1 : Int) 4).2).2 ∧ True) ∧ True) := by kernel_rfl
theorem rcpG : ConOk Tryz.prog 180 (conR rcpGC) := by
 refine con_of_vc gcg Tryz.func180 rfl (by kernel_rfl) fun args => ?_
 unfold rcpGC
 split
 · rename_i qa qb qc qd a b c d px py v
   show RdM.All _ (match v.toB with | some b => _ | none => _) _
   split
   · rename_i al hal
     intro ho
     replace ho : (W1 a ∧ W1 b ∧ W1 c ∧ W1 d) ∧ W1 px ∧ W1 py := ho
     refine ⟨?_, _, _, (vc_rcpG a b c d qa qb qc qd px py al).mpr ?_⟩
     · refine okFlag_mk rfl ⟨?_, trivial⟩
       simp [eqvRL, eqvR, fkEq_self, fsts, toB_eqvR hal]
     · simp [ho]
   · trivial
 · trivial
def hasF (x y z w px py : Nat) : Bool := fGe .f64 px x && fLe .f64 px z && fGe .f64 py y && fLe .f64 py w
noncomputable def rcp (g : Nat → Nat) (n ns x y z w px py : Nat) (al : Bool) : Bool × Int :=
 if hasF x y z w px py = true then (cpV g n ninfw py infw py px py al false (-1) ns).2 else (false, -1)
noncomputable def Gcs : Ctx := ⟨⟨tys, []⟩, [(164, conR sRectSC), (169, pureCon rHasF), (100, pureCon inf2F), (179, conR rcpBC)]⟩
theorem gcs : CtxOk Tryz.prog Gcs := ⟨⟨tysOk, FlatsOk.nil⟩, GamOk.cons sRectS (GamOk.cons (.pure rHas) (GamOk.cons (.pure inf2) (GamOk.cons rcpB GamOk.nil))), by kernel_rfl⟩
noncomputable def rcpSC : List SV → RdM
 | [.ifc 157 (.ptr s 0), .agg [.flt .f64 px, .flt .f64 py], v] => .read s fun o0 => (match serOf o0.c with
   | some (cl, cw, cv, k, x, y, z, w, p, n) => .read p fun o1 => (match fltsFrom .f64 o1.c with
   | some (m1, g) => (match v.toB with
   | some al => .ret ⟨[.ifc 157 (.ptr 0 0), .agg [.flt .f64 px, .flt .f64 py], .bool al], [(0, ⟨false, 150, serC cl cw cv k x y z w 1 n, 0⟩), (1, ⟨false, 100, .flts .f64 m1 g, 0⟩)], .agg [.bool (rcp g n (nsg cl n (wz g)) x y z w px py al).1, .int .i64 (rcp g n (nsg cl n (wz g)) x y z w px py al).2], [], [], some (m1 = 2 * n ∧ n ≤ 1000000 ∧ SmF g (2 * n) ∧ W1 px ∧ W1 py)⟩
   | none => .fail)
   | none => .fail)
   | none => .fail)
 | _ => .fail
theorem vc_rcpS (cl cw cv : Bool) (k : Int) (x y z w : Nat) (_ : Nm) (n : Nat) (px py : Nat) (al : Bool)  (g : Nat → Nat) : runA Gcs 2 [] [] (codeOf Tryz.f174) (init Tryz.f174.ntmps [.ifc 157 (.ptr 0 0), .agg [.flt .f64 px, .flt .f64 py], .bool al] [(0, ⟨false, 150, serC cl cw cv k x y z w 1 n, 0⟩), (1, ⟨false, 100, .flts .f64 (2 * n) g, 0⟩)] 2) (endK Gcs.E.T Tryz.f174.results.toList fun S v => postP 2 ⟨[.ifc 157 (.ptr 0 0), .agg [.flt .f64 px, .flt .f64 py], .bool al], [(0, ⟨false, 150, serC cl cw cv k x y z w 1 n, 0⟩), (1, ⟨false, 100, .flts .f64 (2 * n) g, 0⟩)], .agg [.bool (rcp g n (nsg cl n (wz g)) x y z w px py al).1, .int .i64 (rcp g n (nsg cl n (wz g)) x y z w px py al).2], [], [], some (2 * n = 2 * n ∧ n ≤ 1000000 ∧ SmF g (2 * n) ∧ W1 px ∧ W1 py)⟩ S v) = (
(2 * n = 2 * n ∧ True) ∧ true = true ∧ ((!(fGe .f64 px x && fLe .f64 px z && fGe .f64 py y && fLe .f64 py w)) = true → ((rcp g n (nsg cl n (wz g))
 x y z w px py al).1 = false ∧ (-1 : Int) = (rcp g n (nsg cl n (wz g)) x y z w px py al).2 ∧ True) ∧ True) ∧ ((!(fGe .f64 px x && fLe .f64 px z && fGe .f64 py y && fLe
.f64 py w)) = false → true = true ∧ (2 * n = 2 * n ∧ n ≤ 1000000 ∧ SmF g (2 * n) ∧ W1 px ∧ W1 py) ∧ (((cpV g n
18442240474082181120 py 9218868437227405312 py px py al false (-1 : Int) (nsg cl n (wz g))).2).1 = (rcp g n (nsg cl n (wz g)) x y z w px py
 al).1 ∧ ((cpV g n 18442240474082181120 py 9218868437227405312 py px py al false (-1 : Int) (nsg cl n (wz g))).2).2 = (rcp g n
(nsg cl n (wz g)) x y z w px py al).2 ∧ True) ∧ True)) := by kernel_rfl
theorem rcpS : ConOk Tryz.prog 174 (conR rcpSC) := by
 refine con_of_vc gcs Tryz.func174 rfl (by kernel_rfl) fun args => ?_
 unfold rcpSC
 split
 · rename_i s px py v
   intro o0
   show RdM.All _ (match serOf o0.c with | some (cl, cw, cv, k, x, y, z, w, p, n) => _ | none => _) _
   split
   · rename_i cl cw cv k x y z w p n hm0
     intro o1
     show RdM.All _ (match fltsFrom .f64 o1.c with | some (m, g) => _ | none => _) _
     split
     · rename_i m1 g hm1
       show RdM.All _ (match v.toB with | some b => _ | none => _) _
       split
       · rename_i al hal
         intro ho
         replace ho : m1 = 2 * n ∧ n ≤ 1000000 ∧ SmF g (2 * n) ∧ W1 px ∧ W1 py := ho
         obtain ⟨hsz1, ho⟩ := ho
         subst hsz1
         refine ⟨?_, _, _, (vc_rcpS cl cw cv k x y z w p n px py al g).mpr ?_⟩
         · refine okFlag_mk rfl ⟨?_, ⟨trivial, serOf_spec hm0 (by simp [sgSig, fsts, nth, sameN_self]), ⟨trivial, (contR_flts hm1).1, trivial⟩⟩⟩
           simp [eqvRL, eqvR, fkEq_self, sgSig, fsts, nth, sameN_self, toB_eqvR hal]
         · have e : (fGe .f64 px x && fLe .f64 px z && fGe .f64 py y && fLe .f64 py w) = hasF x y z w px py := rfl
           unfold rcp
           simp only [e]
           cases hasF x y z w px py <;> simp [ho, ninfw, infw]
       · trivial
     · trivial
   · trivial
 · trivial
noncomputable def Gcr : Ctx := ⟨⟨tys, []⟩, [(198, pureCon rRectF), (169, pureCon rHasF), (100, pureCon inf2F), (180, conR rcpGC)]⟩
theorem gcr : CtxOk Tryz.prog Gcr := ⟨⟨tysOk, FlatsOk.nil⟩, GamOk.cons (.pure rRect) (GamOk.cons (.pure rHas) (GamOk.cons (.pure inf2) (GamOk.cons rcpG GamOk.nil))), by kernel_rfl⟩
noncomputable def rcpRC : List SV → RdM
 | [.ifc 102 (.agg [.flt .f64 a, .flt .f64 b, .flt .f64 c, .flt .f64 d]), .agg [.flt .f64 px, .flt .f64 py], v] => (match v.toB with
   | some al => .ret ⟨[.ifc 102 (.agg [.flt .f64 a, .flt .f64 b, .flt .f64 c, .flt .f64 d]), .agg [.flt .f64 px, .flt .f64 py], .bool al], [], .agg [.bool (rcp (rcG a b c d) 4 4 a b c d px py al).1, .int .i64 (rcp (rcG a b c d) 4 4 a b c d px py al).2], [], [], some ((W1 a ∧ W1 b ∧ W1 c ∧ W1 d) ∧ W1 px ∧ W1 py)⟩
   | none => .fail)
 | _ => .fail
theorem vc_rcpR (a b c d px py : Nat) (al : Bool) : runA Gcr 0 [] [] (codeOf Tryz.f174) (init Tryz.f174.ntmps [.ifc 102 (.agg [.flt .f64 a, .flt .f64 b, .flt .f64 c, .flt .f64 d]), .agg [.flt .f64 px, .flt .f64 py], .bool al] [] 0) (endK Gcr.E.T Tryz.f174.results.toList fun S v => postP 0 ⟨[.ifc 102 (.agg [.flt .f64 a, .flt .f64 b, .flt .f64 c, .flt .f64 d]), .agg [.flt .f64 px, .flt .f64 py], .bool al], [], .agg [.bool (rcp (rcG a b c d) 4 4 a b c d px py al).1, .int .i64 (rcp (rcG a b c d) 4 4 a b c d px py al).2], [], [], some ((W1 a ∧ W1 b ∧ W1 c ∧ W1 d) ∧ W1 px ∧ W1 py)⟩ S v) = (
 true = true ∧ ((!(fGe .f64 px a && fLe .f64 px c && fGe .f64 py b && fLe .f64 py d)) = true → ((rcp (rcG a b c d) 4 4 a b c d px py al).1 = false ∧ (-1 : Int) =
 (rcp (rcG a b c d) 4 4 a b c d px py al).2 ∧ True) ∧ True) ∧ ((!(fGe .f64 px a && fLe .f64 px c && fGe .f64 py b && fLe .f64 py d)) = false → true = true ∧
((W1 a ∧ W1 b ∧ W1 c ∧ W1 d) ∧ W1 px ∧ W1 py) ∧ (((cpV (rcG a b c d) 4
18442240474082181120 py 9218868437227405312 py px py al false (-1 : Int) 4).2).1 = (rcp (rcG a b c d) 4 4 a b c d px py al).1 ∧ ((cpV
(rcG a b c d) 4 18442240474082181120 py 9218868437227405312 py px py al false (-1 : Int) 4).2).2 = (rcp (rcG a b c d) 4 4 a b c d px py al).2 ∧
 True) ∧ True)) := by kernel_rfl
theorem rcpR : ConOk Tryz.prog 174 (conR rcpRC) := by
 refine con_of_vc gcr Tryz.func174 rfl (by kernel_rfl) fun args => ?_
 unfold rcpRC
 split
 · rename_i a b c d px py v
   show RdM.All _ (match v.toB with | some b => _ | none => _) _
   split
   · rename_i al hal
     intro ho
     replace ho : (W1 a ∧ W1 b ∧ W1 c ∧ W1 d) ∧ W1 px ∧ W1 py := ho
     refine ⟨?_, _, _, (vc_rcpR a b c d px py al).mpr ?_⟩
     · refine okFlag_mk rfl ⟨?_, trivial⟩
       simp [eqvRL, eqvR, fkEq_self, fsts, toB_eqvR hal]
     · have e : (fGe .f64 px a && fLe .f64 px c && fGe .f64 py b && fLe .f64 py d) = hasF a b c d px py := rfl
       unfold rcp
       simp only [e]
       cases hasF a b c d px py <;> simp [ho, ninfw, infw]
   · trivial
 · trivial
def mt4 (a b c d p q r s : Nat) : Bool := !(fGt .f64 b s) && !(fLt .f64 d q) && !(fGt .f64 a r) && !(fLt .f64 c p)
noncomputable def ris (g : Nat → Nat) (n ns x y z w ax ay bx by' : Nat) (al : Bool) : Bool :=
 mt4 (fmin ax bx) (fmin ay by') (fmax ax bx) (fmax ay by') x y z w && ((rcp g n ns x y z w ax ay al).1 || (rcp g n ns x y z w bx by' al).1 ||
   decide (2 ≤ (isV g n (fmin ax bx) (fmin ay by') (fmax ax bx) (fmax ay by') ax ay bx by' al false false ns).2.2.2))
noncomputable def Gis1 : Ctx := ⟨⟨tys, []⟩, [(164, conR sRectSC), (113, pureCon sRectF), (175, pureCon rMeetF), (174, conR rcpSC), (172, conR srISC)]⟩
theorem gis1 : CtxOk Tryz.prog Gis1 := ⟨⟨tysOk, FlatsOk.nil⟩, GamOk.cons sRectS (GamOk.cons (.pure sRect) (GamOk.cons (.pure rMeet) (GamOk.cons rcpS (GamOk.cons srIS GamOk.nil)))), by kernel_rfl⟩
noncomputable def risSC : List SV → RdM
 | [.ifc 157 (.ptr s 0), .agg [.flt .f64 ax, .flt .f64 ay, .flt .f64 bx, .flt .f64 by'], v] => .read s fun o0 => (match serOf o0.c with
   | some (cl, cw, cv, k, x, y, z, w, p, n) => .read p fun o1 => (match fltsFrom .f64 o1.c with
   | some (m1, g) => (match v.toB with
   | some al => .ret ⟨[.ifc 157 (.ptr 0 0), .agg [.flt .f64 ax, .flt .f64 ay, .flt .f64 bx, .flt .f64 by'], .bool al], [(0, ⟨false, 150, serC cl cw cv k x y z w 1 n, 0⟩), (1, ⟨false, 100, .flts .f64 m1 g, 0⟩)], .bool (ris g n (nsg cl n (wz g)) x y z w ax ay bx by' al), [], [], some (m1 = 2 * n ∧ n ≤ 1000000 ∧ SmF g (2 * n) ∧ W1 ax ∧ W1 ay ∧ W1 bx ∧ W1 by')⟩
   | none => .fail)
   | none => .fail)
   | none => .fail)
 | _ => .fail
theorem vc_risS (cl cw cv : Bool) (k : Int) (x y z w : Nat) (_ : Nm) (n : Nat) (ax ay bx by' : Nat) (al : Bool)  (g : Nat → Nat) : runA Gis1 2 [] [] (codeOf Tryz.f207) (init Tryz.f207.ntmps [.ifc 157 (.ptr 0 0), .agg [.flt .f64 ax, .flt .f64 ay, .flt .f64 bx, .flt .f64 by'], .bool al] [(0, ⟨false, 150, serC cl cw cv k x y z w 1 n, 0⟩), (1, ⟨false, 100, .flts .f64 (2 * n) g, 0⟩)] 2) (endK Gis1.E.T Tryz.f207.results.toList fun S v => postP 2 ⟨[.ifc 157 (.ptr 0 0), .agg [.flt .f64 ax, .flt .f64 ay, .flt .f64 bx, .flt .f64 by'], .bool al], [(0, ⟨false, 150, serC cl cw cv k x y z w 1 n, 0⟩), (1, ⟨false, 100, .flts .f64 (2 * n) g, 0⟩)], .bool (ris g n (nsg cl n (wz g)) x y z w ax ay bx by' al), [], [], some (2 * n = 2 * n ∧ n ≤ 1000000 ∧ SmF g (2 * n) ∧ W1 ax ∧ W1 ay ∧ W1 bx ∧ W1 by')⟩ S v) = (
(2 * n = 2 * n ∧ True) ∧ ((!(!fGt .f64 (fmin ay by') w && !fLt .f64 (fmax ay by') y && !fGt .f64 (fmin ax bx) z && !fLt .f64 (fmax ax bx)
 x)) = true → ris g n (nsg cl n (wz g)) x y z w ax ay bx by' al = false ∧ True) ∧ ((!(!fGt .f64 (fmin ay by') w && !fLt .f64 (fmax ay by') y &&
!fGt .f64 (fmin ax bx) z && !fLt .f64 (fmax ax bx) x)) = false → (2 * n = 2 * n ∧ n ≤ 1000000 ∧ SmF g (2 * n) ∧ W1 ax ∧
 W1 ay) ∧ ((rcp g n (nsg cl n (wz g)) x y z w ax ay al).1 = true → ris g n (nsg cl n (wz g)) x y z w ax ay bx by' al =
 true ∧ True) ∧ ((rcp g n (nsg cl n (wz g)) x y z w ax ay al).1 = false → (2 * n = 2 * n ∧ n ≤ 1000000 ∧ SmF g (2 * n) ∧
 W1 bx ∧ W1 by') ∧ ((rcp g n (nsg cl n (wz g)) x y z w bx by' al).1 = true → ris g n (nsg cl n (wz
 g)) x y z w ax ay bx by' al = true ∧ True) ∧ ((rcp g n (nsg cl n (wz g)) x y z w bx by' al).1 = false → (2 * n = 2 * n ∧ n ≤ 1000000 ∧ SmF g (2 * n) ∧ (W1 ax ∧ W1 ay ∧ W1 bx ∧ W1 by') ∧ (0 : Int) = 0) ∧ true = true ∧ decide ((2 : Int) ≤ (((isV g n
(fmin ax bx) (fmin ay by') (fmax ax bx) (fmax ay by') ax ay bx by' al false false (nsg cl n (wz g))).2).2).2) = ris g n
(nsg cl n (wz g)) x y z w ax ay bx by' al ∧ True)))) := by kernel_rfl
theorem risS : ConOk Tryz.prog 207 (conR risSC) := by
 refine con_of_vc gis1 Tryz.func207 rfl (by kernel_rfl) fun args => ?_
 unfold risSC
 split
 · rename_i s ax ay bx by' v
   intro o0
   show RdM.All _ (match serOf o0.c with | some (cl, cw, cv, k, x, y, z, w, p, n) => _ | none => _) _
   split
   · rename_i cl cw cv k x y z w p n hm0
     intro o1
     show RdM.All _ (match fltsFrom .f64 o1.c with | some (m, g) => _ | none => _) _
     split
     · rename_i m1 g hm1
       show RdM.All _ (match v.toB with | some b => _ | none => _) _
       split
       · rename_i al hal
         intro ho
         replace ho : m1 = 2 * n ∧ n ≤ 1000000 ∧ SmF g (2 * n) ∧ W1 ax ∧ W1 ay ∧ W1 bx ∧ W1 by' := ho
         obtain ⟨hsz1, ho⟩ := ho
         subst hsz1
         refine ⟨?_, _, _, (vc_risS cl cw cv k x y z w p n ax ay bx by' al g).mpr ?_⟩
         · refine okFlag_mk rfl ⟨?_, ⟨trivial, serOf_spec hm0 (by simp [sgSig, fsts, nth, sameN_self]), ⟨trivial, (contR_flts hm1).1, trivial⟩⟩⟩
           simp [eqvRL, eqvR, fkEq_self, sgSig, fsts, nth, sameN_self, toB_eqvR hal]
         · have e : (!(fGt .f64 (fmin ay by') w) && !(fLt .f64 (fmax ay by') y) && !(fGt .f64 (fmin ax bx) z) && !(fLt .f64 (fmax ax bx) x)) = mt4 (fmin ax bx) (fmin ay by') (fmax ax bx) (fmax ay by') x y z w := rfl
           unfold ris
           simp only [e]
           generalize mt4 (fmin ax bx) (fmin ay by') (fmax ax bx) (fmax ay by') x y z w = m
           generalize (rcp g n (nsg cl n (wz g)) x y z w ax ay al).1 = r1
           generalize (rcp g n (nsg cl n (wz g)) x y z w bx by' al).1 = r2
           cases m <;> cases r1 <;> cases r2 <;> simp [ho]
       · trivial
     · trivial
   · trivial
 · trivial
noncomputable def Gis2 : Ctx := ⟨⟨tys, []⟩, [(198, pureCon rRectF), (113, pureCon sRectF), (175, pureCon rMeetF), (174, conR rcpRC), (199, conR rrISC)]⟩
theorem gis2 : CtxOk Tryz.prog Gis2 := ⟨⟨tysOk, FlatsOk.nil⟩, GamOk.cons (.pure rRect) (GamOk.cons (.pure sRect) (GamOk.cons (.pure rMeet) (GamOk.cons rcpR (GamOk.cons rrIS GamOk.nil)))), by kernel_rfl⟩
noncomputable def risRC : List SV → RdM
 | [.ifc 102 (.agg [.flt .f64 a, .flt .f64 b, .flt .f64 c, .flt .f64 d]), .agg [.flt .f64 ax, .flt .f64 ay, .flt .f64 bx, .flt .f64 by'], v] => (match v.toB with
   | some al => .ret ⟨[.ifc 102 (.agg [.flt .f64 a, .flt .f64 b, .flt .f64 c, .flt .f64 d]), .agg [.flt .f64 ax, .flt .f64 ay, .flt .f64 bx, .flt .f64 by'], .bool al], [], .bool (ris (rcG a b c d) 4 4 a b c d ax ay bx by' al), [], [], some ((W1 a ∧ W1 b ∧ W1 c ∧ W1 d) ∧ W1 ax ∧ W1 ay ∧ W1 bx ∧ W1 by')⟩
   | none => .fail)
 | _ => .fail
theorem vc_risR (a b c d ax ay bx by' : Nat) (al : Bool) : runA Gis2 0 [] [] (codeOf Tryz.f207) (init Tryz.f207.ntmps [.ifc 102 (.agg [.flt .f64 a, .flt .f64 b, .flt .f64 c, .flt .f64 d]), .agg [.flt .f64 ax, .flt .f64 ay, .flt .f64 bx, .flt .f64 by'], .bool al] [] 0) (endK Gis2.E.T Tryz.f207.results.toList fun S v => postP 0 ⟨[.ifc 102 (.agg [.flt .f64 a, .flt .f64 b, .flt .f64 c, .flt .f64 d]), .agg [.flt .f64 ax, .flt .f64 ay, .flt .f64 bx, .flt .f64 by'], .bool al], [], .bool (ris (rcG a b c d) 4 4 a b c d ax ay bx by' al), [], [], some ((W1 a ∧ W1 b ∧ W1 c ∧ W1 d) ∧ W1 ax ∧ W1 ay ∧ W1 bx ∧ W1 by')⟩ S v) = (
((!(!fGt .f64 (fmin ay by') d && !fLt .f64 (fmax ay by') b && !fGt .f64 (fmin ax bx) c && !fLt .f64 (fmax ax bx) a)) = true → ris
(rcG a b c d) 4 4 a b c d ax ay bx by' al = false ∧ True) ∧ ((!(!fGt .f64 (fmin ay by') d && !fLt .f64 (fmax ay by') b && !fGt .f64 (fmin ax bx)
 c && !fLt .f64 (fmax ax bx) a)) = false → ((W1 a ∧ W1 b ∧ W1 c ∧ W1 d) ∧ W1 ax ∧ W1 ay) ∧ (Prod.fst
(rcp (rcG a b c d) 4 4 a b c d ax ay al) = true → ris (rcG a b c d) 4 4 a b c d ax ay bx by' al = true ∧ True) ∧ ((rcp
(rcG a b c d) 4 4 a b c d ax ay al).1 = false → ((W1 a ∧ W1 b ∧ W1 c ∧ W1 d) ∧ W1 bx ∧ W1 by') ∧ (Prod.fst
(rcp (rcG a b c d) 4 4 a b c d bx by' al) = true → ris (rcG a b c d) 4 4 a b c d ax ay bx by' al = true ∧ True) ∧ ((rcp
(rcG a b c d) 4 4 a b c d bx by' al).1 = false → ((W1 a ∧ W1 b ∧ W1 c ∧ W1 d) ∧ (W1 ax ∧ W1 ay ∧
 W1 bx ∧ W1 by') ∧ (0 : Int) = 0) ∧ true = true ∧ decide ((2 : Int) ≤ (((isV (rcG a b c d) 4 (fmin ax bx)
(fmin ay by') (fmax ax bx) (fmax ay by') ax ay bx by' al false false 4).2).2).2) = ris (rcG a b c d) 4 4 a b c d ax ay bx by' al ∧ True)))) := by kernel_rfl
theorem risR : ConOk Tryz.prog 207 (conR risRC) := by
 refine con_of_vc gis2 Tryz.func207 rfl (by kernel_rfl) fun args => ?_
 unfold risRC
 split
 · rename_i a b c d ax ay bx by' v
   show RdM.All _ (match v.toB with | some b => _ | none => _) _
   split
   · rename_i al hal
     intro ho
     replace ho : (W1 a ∧ W1 b ∧ W1 c ∧ W1 d) ∧ W1 ax ∧ W1 ay ∧ W1 bx ∧ W1 by' := ho
     refine ⟨?_, _, _, (vc_risR a b c d ax ay bx by' al).mpr ?_⟩
     · refine okFlag_mk rfl ⟨?_, trivial⟩
       simp [eqvRL, eqvR, fkEq_self, fsts, toB_eqvR hal]
     · have e : (!(fGt .f64 (fmin ay by') d) && !(fLt .f64 (fmax ay by') b) && !(fGt .f64 (fmin ax bx) c) && !(fLt .f64 (fmax ax bx) a)) = mt4 (fmin ax bx) (fmin ay by') (fmax ax bx) (fmax ay by') a b c d := rfl
       unfold ris
       simp only [e]
       generalize mt4 (fmin ax bx) (fmin ay by') (fmax ax bx) (fmax ay by') a b c d = m
       generalize (rcp (rcG a b c d) 4 4 a b c d ax ay al).1 = r1
       generalize (rcp (rcG a b c d) 4 4 a b c d bx by' al).1 = r2
       cases m <;> cases r1 <;> cases r2 <;> simp [ho]
   · trivial
 · trivial
end Go.Proofs.Tryz.Sx
