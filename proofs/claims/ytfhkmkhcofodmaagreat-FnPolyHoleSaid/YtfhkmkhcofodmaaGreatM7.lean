/- Parts of a proof, in order: what each says stands at its head. No conditions. -/
import Derived.Test.YtfhkmkhcofodmaaGreatM6
namespace Go.Proofs.Tryz.Sx
open Go Go.Sx Go.Proofs Go.Fl Go.Geo
set_option maxRecDepth 100000
theorem cpR_ix {meet on lf : Nat → Bool} {al b : Bool} : ∀ m, (cpR meet on lf al b (-1) m).2.2 = -1 ∨ (0 ≤ (cpR meet on lf al b (-1) m).2.2 ∧ (cpR meet on lf al b (-1) m).2.2 < m)
 | 0 => .inl rfl
 | m + 1 => by
   have ih := cpR_ix (meet := meet) (on := on) (lf := lf) (al := al) (b := b) m
   unfold cpR
   split
   · rcases ih with h | h
     · exact .inl h
     · exact .inr ⟨h.1, by omega⟩
   · split
     · exact .inr ⟨by simp only; omega, by simp only; omega⟩
     · rcases ih with h | h
       · exact .inl h
       · exact .inr ⟨h.1, by simp only; omega⟩
theorem rcp_ix (g : Nat → Nat) (n ns x y z w px py : Nat) (al : Bool) : (rcp g n ns x y z w px py al).2 = -1 ∨ (0 ≤ (rcp g n ns x y z w px py al).2 ∧ (rcp g n ns x y z w px py al).2 < ns) := by
 unfold rcp
 split
 · exact cpR_ix ns
 · exact .inl rfl
def h10 (a b c d e f i j : Nat) (k : Nat) : Nat := [a, b, c, d, e, f, i, j, a, b].getD k 0
def cw4F (h : Nat → Nat) : Nat → Nat
 | 0 => 0
 | i + 1 => fop .add .f64 (cw4F h i) (fop .mul .f64 (fop .sub .f64 (h (2 * (i + 1))) (h (2 * i))) (fop .add .f64 (h (2 * (i + 1) + 1)) (h (2 * i + 1))))
noncomputable def cw4Z (h : Nat → Nat) : Nat → Int
 | 0 => 0
 | i + 1 => cw4Z h i + (wh (h (2 * (i + 1))) - wh (h (2 * i))) * (wh (h (2 * (i + 1) + 1)) + wh (h (2 * i + 1)))
theorem cw4_F {h : Nat → Nat} (hh : ∀ j, j < 10 → W1 (h j)) : ∀ i, i ≤ 4 → FI (cw4F h i) (cw4Z h i) ∧ (cw4Z h i).natAbs ≤ i * 4398046511104 ∧
   (i < 4 → fok .sub .f64 (h (2 * (i + 1))) (h (2 * i)) ∧ fok .add .f64 (h (2 * (i + 1) + 1)) (h (2 * i + 1)) ∧ fok .mul .f64 (fop .sub .f64 (h (2 * (i + 1))) (h (2 * i))) (fop .add .f64 (h (2 * (i + 1) + 1)) (h (2 * i + 1))) ∧
     fok .add .f64 (cw4F h i) (fop .mul .f64 (fop .sub .f64 (h (2 * (i + 1))) (h (2 * i))) (fop .add .f64 (h (2 * (i + 1) + 1)) (h (2 * i + 1)))) ∧ FI (cw4F h (i + 1)) (cw4Z h (i + 1)) ∧ (cw4Z h (i + 1)).natAbs ≤ (i + 1) * 4398046511104)
 | i, hi => by
   have base : FI (cw4F h i) (cw4Z h i) ∧ (cw4Z h i).natAbs ≤ i * 4398046511104 := by
     cases i with
     | zero => exact ⟨zero_FI, by simp [cw4Z]⟩
     | succ j => exact ((cw4_F hh j (by omega)).2.2 (by omega)).2.2.2.2
   refine ⟨base.1, base.2, fun hi4 => ?_⟩
   have a1 := hh (2 * (i + 1)) (by omega)
   have a2 := hh (2 * i) (by omega)
   have a3 := hh (2 * (i + 1) + 1) (by omega)
   have a4 := hh (2 * i + 1) (by omega)
   have s1 : (wh (h (2 * (i + 1))) - wh (h (2 * i))).natAbs ≤ 2097152 := by have := a1.2; have := a2.2; unfold small at *; omega
   have s2 : (wh (h (2 * (i + 1) + 1)) + wh (h (2 * i + 1))).natAbs ≤ 2097152 := by have := a3.2; have := a4.2; unfold small at *; omega
   have p1 := natAbs_mul_le s1 s2
   obtain ⟨k1, e1⟩ := sub_F a1.1 a2.1 (by omega)
   obtain ⟨k2, e2⟩ := add_F a3.1 a4.1 (by omega)
   obtain ⟨k3, e3⟩ := mul_of e1 e2 (by omega)
   obtain ⟨k4, e4⟩ := add_F base.1 e3 (by omega)
   exact ⟨k1, k2, k3, k4, e4, by show (cw4Z h i + _).natAbs ≤ _; omega⟩
def sw (c : Bool) (x y : Nat) : Nat := if c = true then y else x
section
variable (g : Nat → Nat) (n ns : Nat) (cw cv : Bool) (x y z w ax ay bx by' : Nat) (al : Bool)
noncomputable def rA : Bool × Int := rcp g n ns x y z w ax ay al
noncomputable def rB : Bool × Int := rcp g n ns x y z w bx by' al
noncomputable def endsR (i j : Nat) : Bool := eqW ax ay (g (2 * i)) (g (2 * i + 1)) (g (2 * nx n i)) (g (2 * nx n i + 1)) || eqW ax ay (g (2 * j)) (g (2 * j + 1)) (g (2 * nx n j)) (g (2 * nx n j + 1)) ||
 eqW bx by' (g (2 * i)) (g (2 * i + 1)) (g (2 * nx n i)) (g (2 * nx n i + 1)) || eqW bx by' (g (2 * j)) (g (2 * j + 1)) (g (2 * nx n j)) (g (2 * nx n j + 1))
def hcw (i j : Nat) (c : Bool) : Nat → Nat :=
 h10 (sw c (g (2 * i)) (g (2 * j))) (sw c (g (2 * i + 1)) (g (2 * j + 1))) (sw c (g (2 * nx n i)) (g (2 * nx n j))) (sw c (g (2 * nx n i + 1)) (g (2 * nx n j + 1)))
   (sw c (g (2 * j)) (g (2 * i))) (sw c (g (2 * j + 1)) (g (2 * i + 1))) (sw c (g (2 * nx n j)) (g (2 * nx n i))) (sw c (g (2 * nx n j + 1)) (g (2 * nx n i + 1)))
noncomputable def ixA (f : (Nat → Nat) → Nat → Nat → Nat → Nat → Nat → Nat → Nat → Nat → Nat → Nat → Bool) : Bool := f g n (fmin ax bx) (fmin ay by') (fmax ax bx) (fmax ay by') ax ay bx by' ns
noncomputable def rcs : Bool :=
 if hasF x y z w ax ay = false ∨ hasF x y z w bx by' = false then false
 else if (rA g n ns x y z w ax ay al).1 = false then false
 else if wh bx = wh ax ∧ wh by' = wh ay then true
 else if (rB g n ns x y z w bx by' al).1 = false then false
 else if cv = true then true
 else if al = false then !(ixA g n ns ax ay bx by' ixV5)
 else if (rA g n ns x y z w ax ay al).2 = -1 then (if (rB g n ns x y z w bx by' al).2 = -1 then !(ixA g n ns ax ay bx by' ixV4) else !(ixA g n ns ax ay bx by' ixV3))
 else if (rB g n ns x y z w bx by' al).2 = -1 then !(ixA g n ns ax ay bx by' ixV2)
 else if (rB g n ns x y z w bx by' al).2 = (rA g n ns x y z w ax ay al).2 then true
 else if endsR g n ax ay bx by' (rA g n ns x y z w ax ay al).2.toNat (rB g n ns x y z w bx by' al).2.toNat = true then true
 else if decide (0 < cw4Z (hcw g n (rA g n ns x y z w ax ay al).2.toNat (rB g n ns x y z w bx by' al).2.toNat (decide ((rB g n ns x y z w bx by' al).2 < (rA g n ns x y z w ax ay al).2))) 4) = cw then !(ixA g n ns ax ay bx by' ixV1)
 else false
def P13 : Prop := hasF x y z w ax ay = true ∧ hasF x y z w bx by' = true ∧ (rA g n ns x y z w ax ay al).1 = true ∧ ¬ (wh bx = wh ax ∧ wh by' = wh ay) ∧ (rB g n ns x y z w bx by' al).1 = true ∧ cv = false
def P18 : Prop := P13 g n ns cv x y z w ax ay bx by' al ∧ al = true ∧ (rA g n ns x y z w ax ay al).2 ≠ -1 ∧ (rB g n ns x y z w bx by' al).2 ≠ -1 ∧ (rB g n ns x y z w bx by' al).2 ≠ (rA g n ns x y z w ax ay al).2
def P22 : Prop := P18 g n ns cv x y z w ax ay bx by' al ∧ endsR g n ax ay bx by' (rA g n ns x y z w ax ay al).2.toNat (rB g n ns x y z w bx by' al).2.toNat = false
def P37 : Prop := P13 g n ns cv x y z w ax ay bx by' al ∧ al = true ∧ (rA g n ns x y z w ax ay al).2 ≠ -1 ∧ (rB g n ns x y z w bx by' al).2 = -1
def P44 : Prop := P13 g n ns cv x y z w ax ay bx by' al ∧ al = true ∧ (rA g n ns x y z w ax ay al).2 = -1 ∧ (rB g n ns x y z w bx by' al).2 = -1
def P47 : Prop := P13 g n ns cv x y z w ax ay bx by' al ∧ al = false
end
section
variable {g : Nat → Nat} {n ns : Nat} {cw cv : Bool} {x y z w ax ay bx by' : Nat} {al : Bool}
theorem rcs13 (h : P13 g n ns cv x y z w ax ay bx by' al) : rcs g n ns cw cv x y z w ax ay bx by' al = if al = false then !(ixA g n ns ax ay bx by' ixV5)
 else if (rA g n ns x y z w ax ay al).2 = -1 then (if (rB g n ns x y z w bx by' al).2 = -1 then !(ixA g n ns ax ay bx by' ixV4) else !(ixA g n ns ax ay bx by' ixV3))
 else if (rB g n ns x y z w bx by' al).2 = -1 then !(ixA g n ns ax ay bx by' ixV2)
 else if (rB g n ns x y z w bx by' al).2 = (rA g n ns x y z w ax ay al).2 then true
 else if endsR g n ax ay bx by' (rA g n ns x y z w ax ay al).2.toNat (rB g n ns x y z w bx by' al).2.toNat = true then true
 else if decide (0 < cw4Z (hcw g n (rA g n ns x y z w ax ay al).2.toNat (rB g n ns x y z w bx by' al).2.toNat (decide ((rB g n ns x y z w bx by' al).2 < (rA g n ns x y z w ax ay al).2))) 4) = cw then !(ixA g n ns ax ay bx by' ixV1)
 else false := by
 obtain ⟨p1, p2, p3, p4, p5, p6⟩ := h
 unfold rcs
 rw [if_neg (by simp [p1, p2]), if_neg (by simp [p3]), if_neg p4, if_neg (by simp [p5]), if_neg (by simp [p6])]
theorem rcs47 (h : P47 g n ns cv x y z w ax ay bx by' al) : rcs g n ns cw cv x y z w ax ay bx by' al = !(ixA g n ns ax ay bx by' ixV5) := by
 rw [rcs13 h.1, if_pos h.2]
theorem rcs44 (h : P44 g n ns cv x y z w ax ay bx by' al) : rcs g n ns cw cv x y z w ax ay bx by' al = !(ixA g n ns ax ay bx by' ixV4) := by
 rw [rcs13 h.1, if_neg (by simp [h.2.1]), if_pos h.2.2.1, if_pos h.2.2.2]
theorem rcs37 (h : P37 g n ns cv x y z w ax ay bx by' al) : rcs g n ns cw cv x y z w ax ay bx by' al = !(ixA g n ns ax ay bx by' ixV2) := by
 rw [rcs13 h.1, if_neg (by simp [h.2.1]), if_neg h.2.2.1, if_pos h.2.2.2]
theorem rcs18 (h : P18 g n ns cv x y z w ax ay bx by' al) : rcs g n ns cw cv x y z w ax ay bx by' al = if endsR g n ax ay bx by' (rA g n ns x y z w ax ay al).2.toNat (rB g n ns x y z w bx by' al).2.toNat = true then true
 else if decide (0 < cw4Z (hcw g n (rA g n ns x y z w ax ay al).2.toNat (rB g n ns x y z w bx by' al).2.toNat (decide ((rB g n ns x y z w bx by' al).2 < (rA g n ns x y z w ax ay al).2))) 4) = cw then !(ixA g n ns ax ay bx by' ixV1)
 else false := by
 rw [rcs13 h.1, if_neg (by simp [h.2.1]), if_neg h.2.2.1, if_neg h.2.2.2.1, if_neg h.2.2.2.2]
theorem eqP {c d px py : Nat} (hc : W1 c) (hd : W1 d) (hx : W1 px) (hy : W1 py) : (fEq .f64 c px && (fEq .f64 d py && true)) = decide (wh px = wh c ∧ wh py = wh d) := by
 rw [feq_I hc.1 hx.1, feq_I hd.1 hy.1, Bool.and_true, Bool.decide_and]
 congr 1 <;> exact decide_eq_decide.2 eq_comm
theorem w1_hcw {N i j : Nat} {c : Bool} (hg : SmF g (2 * N)) (hi : i < N) (hj : j < N) : ∀ k, k < 10 → W1 (hcw g N i j c k) := by
 have n1 := nx_lt hi
 have n2 := nx_lt hj
 have sww : ∀ u v, W1 u → W1 v → W1 (sw c u v) := by intro u v hu hv; unfold sw; split <;> assumption
 have a0 := hg (2 * i) (by omega)
 have a1 := hg (2 * i + 1) (by omega)
 have a2 := hg (2 * nx N i) (by omega)
 have a3 := hg (2 * nx N i + 1) (by omega)
 have b0 := hg (2 * j) (by omega)
 have b1 := hg (2 * j + 1) (by omega)
 have b2 := hg (2 * nx N j) (by omega)
 have b3 := hg (2 * nx N j + 1) (by omega)
 intro k hk
 have : k = 0 ∨ k = 1 ∨ k = 2 ∨ k = 3 ∨ k = 4 ∨ k = 5 ∨ k = 6 ∨ k = 7 ∨ k = 8 ∨ k = 9 := by omega
 rcases this with rfl | rfl | rfl | rfl | rfl | rfl | rfl | rfl | rfl | rfl <;> exact sww _ _ (by assumption) (by assumption)
end
def H13 (cl cw cv : Bool) (k : Int) (x y z w n : Nat) (g : Nat → Nat) (ax ay bx by' : Nat) (a b : Bool × Int) : Heap := [(0, ⟨false, 150, serC cl cw cv k x y z w 1 n, 0⟩), (1, ⟨false, 100, .flts .f64 (2 * n) g, 0⟩), (2, ⟨true, 111, bx4C ax ay bx by', 0⟩), (3, ⟨true, 238, .cells [.bool a.1, .int .i64 a.2], 0⟩), (4, ⟨true, 238, .cells [.bool b.1, .int .i64 b.2], 0⟩)]
def S13 (al : Bool) : Slots := [(0, .ifc 157 (.ptr 0 0)), (2, .bool al), (4, .ptr 2 0), (7, .ptr 3 0), (8, .ptr 4 0)]
def F13 (cl cw cv : Bool) (k : Int) (x y z w n : Nat) (g : Nat → Nat) (ax ay bx by' : Nat) (al : Bool) (a b : Bool × Int) (P : Prop) (sl : Slots) (h : Heap) (m : Nat) : Fam := ⟨Nat, fun _ => ⟨234, S13 al ++ sl, H13 cl cw cv k x y z w n g ax ay bx by' a b ++ h, m⟩, fun _ => P, fun _ => 0⟩
def sgO (nm : Nm) (a b c d : Nat) : Nm × Ob := (nm, ⟨true, 111, bx4C a b c d, 0⟩)
def two (g : Nat → Nat) (n i j : Nat) (c : Bool) : Heap := [sgO 5 (sw c (g (2 * i)) (g (2 * j))) (sw c (g (2 * i + 1)) (g (2 * j + 1))) (sw c (g (2 * nx n i)) (g (2 * nx n j))) (sw c (g (2 * nx n i + 1)) (g (2 * nx n j + 1))),
 sgO 6 (sw c (g (2 * j)) (g (2 * i))) (sw c (g (2 * j + 1)) (g (2 * i + 1))) (sw c (g (2 * nx n j)) (g (2 * nx n i))) (sw c (g (2 * nx n j + 1)) (g (2 * nx n i + 1)))]
def S22 : Slots := [(9, .ptr 5 0), (10, .ptr 6 0)]
def L27 (cl cw cv : Bool) (k : Int) (x y z w n : Nat) (g : Nat → Nat) (ax ay bx by' : Nat) (al : Bool) (a b : Bool × Int) (P : Prop) (h : Nat → Nat) : Fam := ⟨Nat, fun i => ⟨234, S13 al ++ [(11, .ptr 5 0), (12, .flt .f64 (cw4F h i)), (13, .int .i64 i)], H13 cl cw cv k x y z w n g ax ay bx by' a b ++ [(5, ⟨true, 258, .flts .f64 10 h, 0⟩)], 6⟩, fun i => i ≤ 4 ∧ P, fun i => 4 - i⟩
def F31 (cl cw cv : Bool) (k : Int) (x y z w n : Nat) (g : Nat → Nat) (ax ay bx by' : Nat) (al : Bool) (a b : Bool × Int) (P : Prop) (h : Nat → Nat) : Fam := F13 cl cw cv k x y z w n g ax ay bx by' al a b P [(12, .flt .f64 (cw4F h 4))] [] 5
def clIs (f : Nat) : List SV → Bool
 | [_, _, .fn (.func g) _ _] => Nat.beq g f
 | _ => false
noncomputable def srIXs : Con := swC (clIs 216) (conR srIX1C) (swC (clIs 217) (conR srIX2C) (swC (clIs 218) (conR srIX3C) (swC (clIs 219) (conR srIX4C) (conR srIX5C))))
theorem srIXs_ok : ConOk Tryz.prog 172 srIXs := ConOk.sw srIX1 (ConOk.sw srIX2 (ConOk.sw srIX3 (ConOk.sw srIX4 srIX5)))
noncomputable def Gcsg : Ctx := ⟨⟨tys, FP⟩, [(164, conR sRectSC), (169, pureCon rHasF), (174, conR rcpSC), (226, conR sConvC), (222, conR sClockC), (112, conR sSegC), (113, pureCon sRectF), (172, srIXs)]⟩
theorem gcsg : CtxOk Tryz.prog Gcsg := ⟨⟨tysOk, fpOk⟩, GamOk.cons sRectS (GamOk.cons (.pure rHas) (GamOk.cons rcpS (GamOk.cons sConv (GamOk.cons sClock (GamOk.cons sSeg (GamOk.cons (.pure sRect) (GamOk.cons srIXs_ok GamOk.nil))))))), by kernel_rfl⟩
noncomputable def rcsSC : List SV → RdM
 | [.ifc 157 (.ptr s 0), .agg [.flt .f64 ax, .flt .f64 ay, .flt .f64 bx, .flt .f64 by'], v] => .read s fun o0 => (match serOf o0.c with
   | some (cl, cw, cv, k, x, y, z, w, p, n) => .read p fun o1 => (match fltsFrom .f64 o1.c with
   | some (m1, g) => (match v.toB with
   | some al => .ret ⟨[.ifc 157 (.ptr 0 0), .agg [.flt .f64 ax, .flt .f64 ay, .flt .f64 bx, .flt .f64 by'], .bool al], [(0, ⟨false, 150, serC cl cw cv k x y z w 1 n, 0⟩), (1, ⟨false, 100, .flts .f64 m1 g, 0⟩)], .bool (rcs g n (nsg cl n (wz g)) cw cv x y z w ax ay bx by' al), [], [], some (m1 = 2 * n ∧ n ≤ 1000000 ∧ SmF g (2 * n) ∧ W1 ax ∧ W1 ay ∧ W1 bx ∧ W1 by')⟩
   | none => .fail)
   | none => .fail)
   | none => .fail)
 | _ => .fail
theorem vc_rcsS (cl cw cv : Bool) (k : Int) (x y z w : Nat) (_ : Nm) (n : Nat) (ax ay bx by' : Nat) (al : Bool)  (g : Nat → Nat) : runA Gcsg 2 [(27, L27 cl cw cv k x y z w n g ax ay bx by' al (rA g n (nsg cl n (wz g)) x y z w ax ay al) (rB g n (nsg cl n (wz g)) x y z w bx by' al) (P22 g n (nsg cl n (wz g)) cv x y z w ax ay bx by' al) (hcw g n (rA g n (nsg cl n (wz g)) x y z w ax ay al).2.toNat (rB g n (nsg cl n (wz g)) x y z w bx by' al).2.toNat (decide ((rB g n (nsg cl n (wz g)) x y z w bx by' al).2 < (rA g n (nsg cl n (wz g)) x y z w ax ay al).2))))] [(13, F13 cl cw cv k x y z w n g ax ay bx by' al (rA g n (nsg cl n (wz g)) x y z w ax ay al) (rB g n (nsg cl n (wz g)) x y z w bx by' al) (P13 g n (nsg cl n (wz g)) cv x y z w ax ay bx by' al) [] [] 5), (18, F13 cl cw cv k x y z w n g ax ay bx by' al (rA g n (nsg cl n (wz g)) x y z w ax ay al) (rB g n (nsg cl n (wz g)) x y z w bx by' al) (P18 g n (nsg cl n (wz g)) cv x y z w ax ay bx by' al) [] [] 5), (22, F13 cl cw cv k x y z w n g ax ay bx by' al (rA g n (nsg cl n (wz g)) x y z w ax ay al) (rB g n (nsg cl n (wz g)) x y z w bx by' al) (P22 g n (nsg cl n (wz g)) cv x y z w ax ay bx by' al) S22 (two g n (rA g n (nsg cl n (wz g)) x y z w ax ay al).2.toNat (rB g n (nsg cl n (wz g)) x y z w bx by' al).2.toNat false) 7), (24, F13 cl cw cv k x y z w n g ax ay bx by' al (rA g n (nsg cl n (wz g)) x y z w ax ay al) (rB g n (nsg cl n (wz g)) x y z w bx by' al) (P22 g n (nsg cl n (wz g)) cv x y z w ax ay bx by' al) S22 (two g n (rA g n (nsg cl n (wz g)) x y z w ax ay al).2.toNat (rB g n (nsg cl n (wz g)) x y z w bx by' al).2.toNat (decide ((rB g n (nsg cl n (wz g)) x y z w bx by' al).2 < (rA g n (nsg cl n (wz g)) x y z w ax ay al).2))) 7), (31, F31 cl cw cv k x y z w n g ax ay bx by' al (rA g n (nsg cl n (wz g)) x y z w ax ay al) (rB g n (nsg cl n (wz g)) x y z w bx by' al) (P22 g n (nsg cl n (wz g)) cv x y z w ax ay bx by' al) (hcw g n (rA g n (nsg cl n (wz g)) x y z w ax ay al).2.toNat (rB g n (nsg cl n (wz g)) x y z w bx by' al).2.toNat (decide ((rB g n (nsg cl n (wz g)) x y z w bx by' al).2 < (rA g n (nsg cl n (wz g)) x y z w ax ay al).2)))), (37, F13 cl cw cv k x y z w n g ax ay bx by' al (rA g n (nsg cl n (wz g)) x y z w ax ay al) (rB g n (nsg cl n (wz g)) x y z w bx by' al) (P37 g n (nsg cl n (wz g)) cv x y z w ax ay bx by' al) [] [] 5), (44, F13 cl cw cv k x y z w n g ax ay bx by' al (rA g n (nsg cl n (wz g)) x y z w ax ay al) (rB g n (nsg cl n (wz g)) x y z w bx by' al) (P44 g n (nsg cl n (wz g)) cv x y z w ax ay bx by' al) [] [] 5), (47, F13 cl cw cv k x y z w n g ax ay bx by' al (rA g n (nsg cl n (wz g)) x y z w ax ay al) (rB g n (nsg cl n (wz g)) x y z w bx by' al) (P47 g n (nsg cl n (wz g)) cv x y z w ax ay bx by' al) [] [] 5)] (codeOf Tryz.f215) (init Tryz.f215.ntmps [.ifc 157 (.ptr 0 0), .agg [.flt .f64 ax, .flt .f64 ay, .flt .f64 bx, .flt .f64 by'], .bool al] [(0, ⟨false, 150, serC cl cw cv k x y z w 1 n, 0⟩), (1, ⟨false, 100, .flts .f64 (2 * n) g, 0⟩)] 2) (endK Gcsg.E.T Tryz.f215.results.toList fun S v => postP 2 ⟨[.ifc 157 (.ptr 0 0), .agg [.flt .f64 ax, .flt .f64 ay, .flt .f64 bx, .flt .f64 by'], .bool al], [(0, ⟨false, 150, serC cl cw cv k x y z w 1 n, 0⟩), (1, ⟨false, 100, .flts .f64 (2 * n) g, 0⟩)], .bool (rcs g n (nsg cl n (wz g)) cw cv x y z w ax ay bx by' al), [], [], some (2 * n = 2 * n ∧ n ≤ 1000000 ∧ SmF g (2 * n) ∧ W1 ax ∧ W1 ay ∧ W1 bx ∧ W1 by')⟩ S v) = (
((!(fGe .f64 ax x && fLe .f64 ax z && fGe .f64 ay y && fLe .f64 ay w)) = true → (2 * n = 2 * n ∧ True) ∧ (!(fGe .f64 ax x && fLe .f64 ax z && fGe .f64 ay y && fLe .f64 ay w)) = true ∧
 true = true ∧ rcs g n (nsg cl n (wz g)) cw cv x y z w ax ay bx by' al = false ∧ True) ∧ ((!(fGe .f64 ax x && fLe .f64 ax z && fGe .f64 ay y && fLe .f64 ay w)) = false → (2 * n = 2 * n ∧ True) ∧ (!(fGe .f64 ax x && fLe .f64 ax z && fGe .f64 ay y && fLe .f64 ay w)) = false ∧ (2 * n = 2 * n ∧ True) ∧ true = true ∧ ((!(fGe .f64 bx x && fLe .f64 bx z &&
 fGe .f64 by' y && fLe .f64 by' w)) = true → rcs g n (nsg cl n (wz g)) cw cv x y z w ax ay bx by' al = false ∧ True) ∧ ((!(fGe .f64 bx x && fLe .f64 bx z && fGe .f64
 by' y && fLe .f64 by' w)) = false → (2 * n = 2 * n ∧ n ≤ 1000000 ∧ SmF g (2 * n) ∧ W1 ax ∧ W1 ay) ∧ ((!(rcp g n
(nsg cl n (wz g)) x y z w ax ay al).1) = true → rcs g n (nsg cl n (wz g)) cw cv x y z w ax ay bx by' al = false ∧ True) ∧ ((!(rcp g n
(nsg cl n (wz g)) x y z w ax ay al).1) = false → ((fEq .f64 bx ax && (fEq .f64 by' ay && true)) = true → rcs g n (nsg cl n (wz g)) cw cv x y z w ax ay
 bx by' al = true ∧ True) ∧ ((fEq .f64 bx ax && (fEq .f64 by' ay && true)) = false → (2 * n = 2 * n ∧ n ≤ 1000000 ∧ SmF g (2 * n) ∧ W1 bx ∧ W1 by') ∧
((!(rcp g n (nsg cl n (wz g)) x y z w bx by' al).1) = true → rcs g n (nsg cl n (wz g)) cw cv x y z w ax ay bx by' al = false ∧ True) ∧
((!(rcp g n (nsg cl n (wz g)) x y z w bx by' al).1) = false → ((2 * n = 2 * n ∧ True) ∧ (cv = true → rcs g n (nsg cl n
(wz g)) cw cv x y z w ax ay bx by' al = true ∧ True) ∧ (cv = false → ∃ (_ : Nat), P13 g n (nsg cl n (wz g)) cv x y z w ax ay bx by' al ∧ ((True ∧ 0 = 0) ∧ al = al
∧ (True ∧ 0 = 0) ∧ (True ∧ 0 = 0) ∧ (True ∧ 0 = 0) ∧ True) ∧ True ∧ (cl = cl ∧ cw = cw ∧ cv = cv ∧ k = k ∧ True ∧ x = x ∧ y = y ∧ z = z ∧ w = w ∧ (True ∧ n = n) ∧ True) ∧ True ∧ (2 * n ≤ 2 * n ∧ ∀ (i : Nat), i < 2 * n → g i = g i) ∧ True ∧ (111 = 111 ∧ 0 = 0 ∧ ax = ax ∧ ay = ay ∧ bx = bx ∧ by' = by' ∧ True) ∧ True ∧ (238 = 238 ∧ 0 = 0 ∧ Prod.fst
(rcp g n (nsg cl n (wz g)) x y z w ax ay al) = (rA g n (nsg cl n (wz g)) x y z w ax ay al).1 ∧ (rcp g n
(nsg cl n (wz g)) x y z w ax ay al).2 = (rA g n (nsg cl n (wz g)) x y z w ax ay al).2 ∧ True) ∧ True ∧ (238 = 238 ∧ 0 = 0 ∧
 (rcp g n (nsg cl n (wz g)) x y z w bx by' al).1 = (rB g n (nsg cl n (wz g)) x y z w bx by' al).1 ∧ Prod.snd
(rcp g n (nsg cl n (wz g)) x y z w bx by' al) = (rB g n (nsg cl n (wz g)) x y z w bx by' al).2 ∧ True) ∧ True)) ∧ ∀ (_ : Nat),
 P13 g n (nsg cl n (wz g)) cv x y z w ax ay bx by' al → ((al = true → ((((rA g n (nsg cl n (wz g)) x y z w ax ay al).2 != (-1 : Int)) =
 true → ((((rB g n (nsg cl n (wz g)) x y z w bx by' al).2 != (-1 : Int)) = true → ((((rB g n (nsg cl n (wz g)) x y z w bx by'
 al).2 == (rA g n (nsg cl n (wz g)) x y z w ax ay al).2) = true → rcs g n (nsg cl n (wz g)) cw cv x y z w ax ay bx by' al = true ∧ True) ∧
(((rB g n (nsg cl n (wz g)) x y z w bx by' al).2 == (rA g n (nsg cl n (wz g)) x y z w ax ay al).2) = false → ∃ (_ : Nat),
 P18 g n (nsg cl n (wz g)) cv x y z w ax ay bx by' al ∧ ((True ∧ 0 = 0) ∧ al = al ∧ (True ∧ 0 = 0) ∧ (True ∧ 0 = 0) ∧ (True ∧ 0 = 0)
∧ True) ∧ True ∧ (cl = cl ∧ cw = cw ∧ cv = cv ∧ k = k ∧ True ∧ x = x ∧ y = y ∧ z = z ∧ w = w ∧ (True ∧ n = n) ∧ True) ∧ True ∧ (2 * n ≤ 2 * n ∧ ∀ (i : Nat), i < 2 * n → g i = g i) ∧ True ∧ (111 = 111 ∧ 0 = 0 ∧ ax = ax ∧ ay = ay ∧ bx = bx ∧ by' = by' ∧ True) ∧ True ∧ (238 = 238 ∧ 0 = 0 ∧ (rA g n (nsg cl n (wz g)) x y z w ax ay al).1 = Prod.fst
(rA g n (nsg cl n (wz g)) x y z w ax ay al) ∧ (rA g n (nsg cl n (wz g)) x y z w ax ay al).2 = (rA g n
(nsg cl n (wz g)) x y z w ax ay al).2 ∧ True) ∧ True ∧ (238 = 238 ∧ 0 = 0 ∧ (rB g n (nsg cl n (wz g)) x y z w bx by' al).1
= (rB g n (nsg cl n (wz g)) x y z w bx by' al).1 ∧ (rB g n (nsg cl n (wz g)) x y z w bx by' al).2 = Prod.snd
(rB g n (nsg cl n (wz g)) x y z w bx by' al) ∧ True) ∧ True)) ∧ ∀ (_ : Nat), P18 g n (nsg cl n (wz g)) cv x y z w ax ay bx by' al → (2
* n = 2 * n ∧ (0 : Int) ≤ (rA g n (nsg cl n (wz g)) x y z w ax ay al).2 ∧ (rA g n (nsg cl n (wz g)) x y z w ax ay al).2
< (↑n : Int) ∧ n ≤ 1000000) ∧ (2 * n = 2 * n ∧ (0 : Int) ≤ (rB g n (nsg cl n (wz g)) x y z w bx by' al).2 ∧ (rB g n (nsg
 cl n (wz g)) x y z w bx by' al).2 < (↑n : Int) ∧ n ≤ 1000000) ∧ (((fEq .f64 (g (2 * Int.toNat ((rA g n (nsg cl n (wz g)) x y z w ax ay al).2))) ax &&
(fEq .f64 (g (2 * Int.toNat ((rA g n (nsg cl n (wz g)) x y z w ax ay al).2) + 1)) ay && true)) = true → rcs g n (nsg cl n
(wz g)) cw cv x y z w ax ay bx by' al = true ∧ True) ∧ ((fEq .f64 (g (2 * Int.toNat ((rA g n (nsg cl n (wz g)) x y z w ax ay al).2))) ax && (fEq .f64
(g (2 * Int.toNat ((rA g n (nsg cl n (wz g)) x y z w ax ay al).2) + 1)) ay && true)) = false → ((fEq .f64 (g (2 * nx n (Int.toNat (Prod.snd
(rA g n (nsg cl n (wz g)) x y z w ax ay al))))) ax && (fEq .f64 (g (2 * nx n (Int.toNat ((rA g n (nsg cl n
(wz g)) x y z w ax ay al).2)) + 1)) ay && true)) = true → rcs g n (nsg cl n (wz g)) cw cv x y z w ax ay bx by' al = true ∧ True) ∧ ((fEq .f64 (g (2 *
 nx n (Int.toNat ((rA g n (nsg cl n (wz g)) x y z w ax ay al).2)))) ax && (fEq .f64 (g (2 * nx n (Int.toNat ((rA
 g n (nsg cl n (wz g)) x y z w ax ay al).2)) + 1)) ay && true)) = false → ((fEq .f64 (g (2 * Int.toNat ((rB g n (nsg cl n (wz g)) x
 y z w bx by' al).2))) ax && (fEq .f64 (g (2 * Int.toNat ((rB g n (nsg cl n (wz g)) x y z w bx by' al).2) + 1)) ay && true)) = true → rcs g n
(nsg cl n (wz g)) cw cv x y z w ax ay bx by' al = true ∧ True) ∧ ((fEq .f64 (g (2 * Int.toNat ((rB g n (nsg cl n (wz g)) x y z w bx by'
 al).2))) ax && (fEq .f64 (g (2 * Int.toNat ((rB g n (nsg cl n (wz g)) x y z w bx by' al).2) + 1)) ay && true)) = false → ((fEq .f64 (g (2 *
 nx n (Int.toNat ((rB g n (nsg cl n (wz g)) x y z w bx by' al).2)))) ax && (fEq .f64 (g (2 * nx n (Int.toNat ((rB
 g n (nsg cl n (wz g)) x y z w bx by' al).2)) + 1)) ay && true)) = true → rcs g n (nsg cl n (wz g)) cw cv x y z w ax ay bx by' al = true ∧ True) ∧
((fEq .f64 (g (2 * nx n (Int.toNat ((rB g n (nsg cl n (wz g)) x y z w bx by' al).2)))) ax && (fEq .f64 (g (2 * nx n
(Int.toNat ((rB g n (nsg cl n (wz g)) x y z w bx by' al).2)) + 1)) ay && true)) = false → ((fEq .f64 (g (2 * Int.toNat ((rA g n
(nsg cl n (wz g)) x y z w ax ay al).2))) bx && (fEq .f64 (g (2 * Int.toNat ((rA g n (nsg cl n (wz g)) x y z w ax ay al).2) + 1)) by'
&& true)) = true → rcs g n (nsg cl n (wz g)) cw cv x y z w ax ay bx by' al = true ∧ True) ∧ ((fEq .f64 (g (2 * Int.toNat ((rA g n (nsg cl
 n (wz g)) x y z w ax ay al).2))) bx && (fEq .f64 (g (2 * Int.toNat ((rA g n (nsg cl n (wz g)) x y z w ax ay al).2) + 1)) by' && true)) = false →
((fEq .f64 (g (2 * nx n (Int.toNat ((rA g n (nsg cl n (wz g)) x y z w ax ay al).2)))) bx && (fEq .f64 (g (2 * nx n (Int.toNat
((rA g n (nsg cl n (wz g)) x y z w ax ay al).2)) + 1)) by' && true)) = true → rcs g n (nsg cl n (wz g)) cw cv x y z w ax ay bx
 by' al = true ∧ True) ∧ ((fEq .f64 (g (2 * nx n (Int.toNat ((rA g n (nsg cl n (wz g)) x y z w ax ay al).2)))) bx && (fEq .f64 (g (2 *
 nx n (Int.toNat ((rA g n (nsg cl n (wz g)) x y z w ax ay al).2)) + 1)) by' && true)) = false → ((fEq .f64 (g (2 * Int.toNat (Prod.snd
(rB g n (nsg cl n (wz g)) x y z w bx by' al)))) bx && (fEq .f64 (g (2 * Int.toNat ((rB g n (nsg cl n (wz g)) x y z w bx
 by' al).2) + 1)) by' && true)) = true → rcs g n (nsg cl n (wz g)) cw cv x y z w ax ay bx by' al = true ∧ True) ∧ ((fEq .f64 (g (2 * Int.toNat ((rB g
 n (nsg cl n (wz g)) x y z w bx by' al).2))) bx && (fEq .f64 (g (2 * Int.toNat ((rB g n (nsg cl n (wz g)) x y z w bx by' al).2) + 1))
 by' && true)) = false → ((fEq .f64 (g (2 * nx n (Int.toNat ((rB g n (nsg cl n (wz g)) x y z w bx by' al).2)))) bx && (fEq .f64 (g (2 *
 nx n (Int.toNat ((rB g n (nsg cl n (wz g)) x y z w bx by' al).2)) + 1)) by' && true)) = true → rcs g n (nsg cl n
(wz g)) cw cv x y z w ax ay bx by' al = true ∧ True) ∧ ((fEq .f64 (g (2 * nx n (Int.toNat ((rB g n (nsg cl n (wz g)) x y z w bx by'
 al).2)))) bx && (fEq .f64 (g (2 * nx n (Int.toNat ((rB g n (nsg cl n (wz g)) x y z w bx by' al).2)) + 1)) by' && true)) = false → ∃ (_ : Nat),
 P22 g n (nsg cl n (wz g)) cv x y z w ax ay bx by' al ∧ ((True ∧ 0 = 0) ∧ al = al ∧ (True ∧ 0 = 0) ∧ (True ∧ 0 = 0) ∧ (True ∧ 0 = 0)
∧ (True ∧ 0 = 0) ∧ (True ∧ 0 = 0) ∧ True) ∧ True ∧ (cl = cl ∧ cw = cw ∧ cv = cv ∧ k = k ∧ True ∧ x = x ∧ y = y ∧ z = z ∧ w = w ∧ (True ∧ n = n) ∧ True) ∧ True ∧ (2 * n ≤ 2 * n ∧ ∀ (i : Nat), i < 2 * n → g i = g i) ∧ True ∧ (111 = 111 ∧ 0 = 0 ∧ ax = ax ∧ ay = ay ∧ bx = bx ∧ by' = by' ∧ True) ∧ True ∧ (238 = 238 ∧ 0 = 0 ∧ (rA g n
(nsg cl n (wz g)) x y z w ax ay al).1 = (rA g n (nsg cl n (wz g)) x y z w ax ay al).1 ∧ (rA g n (nsg cl n
(wz g)) x y z w ax ay al).2 = (rA g n (nsg cl n (wz g)) x y z w ax ay al).2 ∧ True) ∧ True ∧ (238 = 238 ∧ 0 = 0 ∧ Prod.fst
(rB g n (nsg cl n (wz g)) x y z w bx by' al) = (rB g n (nsg cl n (wz g)) x y z w bx by' al).1 ∧ (rB g n
(nsg cl n (wz g)) x y z w bx by' al).2 = (rB g n (nsg cl n (wz g)) x y z w bx by' al).2 ∧ True) ∧ True ∧ (111 = 111 ∧ 0 = 0
∧ g (2 * Int.toNat ((rA g n (nsg cl n (wz g)) x y z w ax ay al).2)) = sw false (g (2 * Int.toNat ((rA g n (nsg
 cl n (wz g)) x y z w ax ay al).2))) (g (2 * Int.toNat ((rB g n (nsg cl n (wz g)) x y z w bx by' al).2))) ∧ g (2 * Int.toNat ((rA g
 n (nsg cl n (wz g)) x y z w ax ay al).2) + 1) = sw false (g (2 * Int.toNat ((rA g n (nsg cl n (wz g)) x y z w ax ay
 al).2) + 1)) (g (2 * Int.toNat ((rB g n (nsg cl n (wz g)) x y z w bx by' al).2) + 1)) ∧ g (2 * nx n (Int.toNat (Prod.snd
(rA g n (nsg cl n (wz g)) x y z w ax ay al)))) = sw false (g (2 * nx n (Int.toNat ((rA g n (nsg cl n
(wz g)) x y z w ax ay al).2)))) (g (2 * nx n (Int.toNat ((rB g n (nsg cl n (wz g)) x y z w bx by' al).2)))) ∧ g (2 * nx n
(Int.toNat ((rA g n (nsg cl n (wz g)) x y z w ax ay al).2)) + 1) = sw false (g (2 * nx n (Int.toNat ((rA g n
(nsg cl n (wz g)) x y z w ax ay al).2)) + 1)) (g (2 * nx n (Int.toNat ((rB g n (nsg cl n (wz g)) x y z w bx by' al).2)) +
1)) ∧ True) ∧ True ∧ (111 = 111 ∧ 0 = 0 ∧ g (2 * Int.toNat ((rB g n (nsg cl n (wz g)) x y z w bx by' al).2)) = sw false (g
(2 * Int.toNat ((rB g n (nsg cl n (wz g)) x y z w bx by' al).2))) (g (2 * Int.toNat ((rA g n (nsg cl n (wz g))
 x y z w ax ay al).2))) ∧ g (2 * Int.toNat ((rB g n (nsg cl n (wz g)) x y z w bx by' al).2) + 1) = sw false (g (2 * Int.toNat (Prod.snd
(rB g n (nsg cl n (wz g)) x y z w bx by' al)) + 1)) (g (2 * Int.toNat ((rA g n (nsg cl n (wz g)) x y z w ax ay al).2) +
1)) ∧ g (2 * nx n (Int.toNat ((rB g n (nsg cl n (wz g)) x y z w bx by' al).2))) = sw false (g (2 * nx n
(Int.toNat ((rB g n (nsg cl n (wz g)) x y z w bx by' al).2)))) (g (2 * nx n (Int.toNat ((rA g n (nsg cl n
(wz g)) x y z w ax ay al).2)))) ∧ g (2 * nx n (Int.toNat ((rB g n (nsg cl n (wz g)) x y z w bx by' al).2)) + 1) = sw
 false (g (2 * nx n (Int.toNat ((rB g n (nsg cl n (wz g)) x y z w bx by' al).2)) + 1)) (g (2 * nx n (Int.toNat (Prod.snd
(rA g n (nsg cl n (wz g)) x y z w ax ay al))) + 1)) ∧ True) ∧ True))))))))) ∧ ∀ (_ : Nat), P22 g n (nsg cl n (wz g)) cv x y z w ax ay
 bx by' al → ((decide ((rB g n (nsg cl n (wz g)) x y z w bx by' al).2 < (rA g n (nsg cl n (wz g)) x y z w ax ay al).2) = true → ∃
(_ : Nat), P22 g n (nsg cl n (wz g)) cv x y z w ax ay bx by' al ∧ ((True ∧ 0 = 0) ∧ al = al ∧ (True ∧ 0 = 0) ∧ (True ∧ 0 = 0) ∧ (True ∧ 0 =
0) ∧ (True ∧ 0 = 0) ∧ (True ∧ 0 = 0) ∧ True) ∧ True ∧ (cl = cl ∧ cw = cw ∧ cv = cv ∧ k = k ∧ True ∧ x = x ∧ y = y ∧ z = z ∧ w = w ∧ (True ∧ n = n) ∧ True) ∧ True ∧ (2 * n ≤ 2 * n ∧ ∀ (i : Nat),
 i < 2 * n → g i = g i) ∧ True ∧ (111 = 111 ∧ 0 = 0 ∧ ax = ax ∧ ay = ay ∧ bx = bx ∧ by' = by' ∧ True) ∧ True ∧ (238 = 238 ∧ 0 = 0 ∧ (rA g n
(nsg cl n (wz g)) x y z w ax ay al).1 = (rA g n (nsg cl n (wz g)) x y z w ax ay al).1 ∧ (rA g n (nsg cl n
(wz g)) x y z w ax ay al).2 = (rA g n (nsg cl n (wz g)) x y z w ax ay al).2 ∧ True) ∧ True ∧ (238 = 238 ∧ 0 = 0 ∧ Prod.fst
(rB g n (nsg cl n (wz g)) x y z w bx by' al) = (rB g n (nsg cl n (wz g)) x y z w bx by' al).1 ∧ (rB g n
(nsg cl n (wz g)) x y z w bx by' al).2 = (rB g n (nsg cl n (wz g)) x y z w bx by' al).2 ∧ True) ∧ True ∧ (111 = 111 ∧ 0 = 0
∧ sw false (g (2 * Int.toNat ((rB g n (nsg cl n (wz g)) x y z w bx by' al).2))) (g (2 * Int.toNat ((rA g n
(nsg cl n (wz g)) x y z w ax ay al).2))) = sw (decide ((rB g n (nsg cl n (wz g)) x y z w bx by' al).2 < (rA g
 n (nsg cl n (wz g)) x y z w ax ay al).2)) (g (2 * Int.toNat ((rA g n (nsg cl n (wz g)) x y z w ax ay al).2))) (g (2 * Int.toNat (Prod.snd
(rB g n (nsg cl n (wz g)) x y z w bx by' al)))) ∧ sw false (g (2 * Int.toNat ((rB g n (nsg cl n (wz g)) x y
 z w bx by' al).2) + 1)) (g (2 * Int.toNat ((rA g n (nsg cl n (wz g)) x y z w ax ay al).2) + 1)) = sw (decide ((rB g n
(nsg cl n (wz g)) x y z w bx by' al).2 < (rA g n (nsg cl n (wz g)) x y z w ax ay al).2)) (g (2 * Int.toNat ((rA g n
(nsg cl n (wz g)) x y z w ax ay al).2) + 1)) (g (2 * Int.toNat ((rB g n (nsg cl n (wz g)) x y z w bx by' al).2) + 1)) ∧
 sw false (g (2 * nx n (Int.toNat ((rB g n (nsg cl n (wz g)) x y z w bx by' al).2)))) (g (2 * nx n (Int.toNat (Prod.snd
(rA g n (nsg cl n (wz g)) x y z w ax ay al))))) = sw (decide ((rB g n (nsg cl n (wz g)) x y z w bx by' al).2 <
 (rA g n (nsg cl n (wz g)) x y z w ax ay al).2)) (g (2 * nx n (Int.toNat ((rA g n (nsg cl n (wz g)) x
 y z w ax ay al).2)))) (g (2 * nx n (Int.toNat ((rB g n (nsg cl n (wz g)) x y z w bx by' al).2)))) ∧ sw false (g (2 * nx n
(Int.toNat ((rB g n (nsg cl n (wz g)) x y z w bx by' al).2)) + 1)) (g (2 * nx n (Int.toNat ((rA g n (nsg cl n
(wz g)) x y z w ax ay al).2)) + 1)) = sw (decide ((rB g n (nsg cl n (wz g)) x y z w bx by' al).2 < (rA g n
(nsg cl n (wz g)) x y z w ax ay al).2)) (g (2 * nx n (Int.toNat ((rA g n (nsg cl n (wz g)) x y z w ax ay al).2)) + 1)) (g
(2 * nx n (Int.toNat ((rB g n (nsg cl n (wz g)) x y z w bx by' al).2)) + 1)) ∧ True) ∧ True ∧ (111 = 111 ∧ 0 = 0 ∧
 sw false (g (2 * Int.toNat ((rA g n (nsg cl n (wz g)) x y z w ax ay al).2))) (g (2 * Int.toNat ((rB g n (nsg
 cl n (wz g)) x y z w bx by' al).2))) = sw (decide ((rB g n (nsg cl n (wz g)) x y z w bx by' al).2 < (rA g n
(nsg cl n (wz g)) x y z w ax ay al).2)) (g (2 * Int.toNat ((rB g n (nsg cl n (wz g)) x y z w bx by' al).2))) (g (2 * Int.toNat (Prod.snd
(rA g n (nsg cl n (wz g)) x y z w ax ay al)))) ∧ sw false (g (2 * Int.toNat ((rA g n (nsg cl n (wz g)) x y
 z w ax ay al).2) + 1)) (g (2 * Int.toNat ((rB g n (nsg cl n (wz g)) x y z w bx by' al).2) + 1)) = sw (decide ((rB g n
(nsg cl n (wz g)) x y z w bx by' al).2 < (rA g n (nsg cl n (wz g)) x y z w ax ay al).2)) (g (2 * Int.toNat ((rB g n
(nsg cl n (wz g)) x y z w bx by' al).2) + 1)) (g (2 * Int.toNat ((rA g n (nsg cl n (wz g)) x y z w ax ay al).2) + 1)) ∧
 sw false (g (2 * nx n (Int.toNat ((rA g n (nsg cl n (wz g)) x y z w ax ay al).2)))) (g (2 * nx n (Int.toNat (Prod.snd
(rB g n (nsg cl n (wz g)) x y z w bx by' al))))) = sw (decide ((rB g n (nsg cl n (wz g)) x y z w bx by' al).2 <
 (rA g n (nsg cl n (wz g)) x y z w ax ay al).2)) (g (2 * nx n (Int.toNat ((rB g n (nsg cl n (wz g)) x
 y z w bx by' al).2)))) (g (2 * nx n (Int.toNat ((rA g n (nsg cl n (wz g)) x y z w ax ay al).2)))) ∧ sw false (g (2 * nx n
(Int.toNat ((rA g n (nsg cl n (wz g)) x y z w ax ay al).2)) + 1)) (g (2 * nx n (Int.toNat ((rB g n (nsg cl n
(wz g)) x y z w bx by' al).2)) + 1)) = sw (decide ((rB g n (nsg cl n (wz g)) x y z w bx by' al).2 < (rA g n
(nsg cl n (wz g)) x y z w ax ay al).2)) (g (2 * nx n (Int.toNat ((rB g n (nsg cl n (wz g)) x y z w bx by' al).2)) + 1))
(g (2 * nx n (Int.toNat ((rA g n (nsg cl n (wz g)) x y z w ax ay al).2)) + 1)) ∧ True) ∧ True) ∧ (decide ((rB g n
(nsg cl n (wz g)) x y z w bx by' al).2 < (rA g n (nsg cl n (wz g)) x y z w ax ay al).2) = false → ∃ (_ : Nat), P22 g n
(nsg cl n (wz g)) cv x y z w ax ay bx by' al ∧ ((True ∧ 0 = 0) ∧ al = al ∧ (True ∧ 0 = 0) ∧ (True ∧ 0 = 0) ∧ (True ∧ 0 = 0) ∧ (True ∧ 0 = 0) ∧ (True ∧ 0 = 0) ∧ True) ∧ True ∧ (cl = cl ∧ cw = cw ∧ cv = cv ∧ k = k ∧ True ∧ x = x ∧ y = y ∧ z = z ∧ w = w ∧ (True ∧ n = n) ∧ True) ∧ True ∧ (2 * n ≤ 2 * n ∧ ∀ (i : Nat), i < 2 * n → g i = g i) ∧ True
∧ (111 = 111 ∧ 0 = 0 ∧ ax = ax ∧ ay = ay ∧ bx = bx ∧ by' = by' ∧ True) ∧ True ∧ (238 = 238 ∧ 0 = 0 ∧ (rA g n (nsg cl n (wz
 g)) x y z w ax ay al).1 = (rA g n (nsg cl n (wz g)) x y z w ax ay al).1 ∧ (rA g n (nsg cl n (wz g)) x y z w ax ay al).2 = Prod.snd
(rA g n (nsg cl n (wz g)) x y z w ax ay al) ∧ True) ∧ True ∧ (238 = 238 ∧ 0 = 0 ∧ (rB g n (nsg cl n
(wz g)) x y z w bx by' al).1 = (rB g n (nsg cl n (wz g)) x y z w bx by' al).1 ∧ (rB g n (nsg cl n (wz g)) x y
 z w bx by' al).2 = (rB g n (nsg cl n (wz g)) x y z w bx by' al).2 ∧ True) ∧ True ∧ (111 = 111 ∧ 0 = 0 ∧ sw false (g (2 * Int.toNat
((rA g n (nsg cl n (wz g)) x y z w ax ay al).2))) (g (2 * Int.toNat ((rB g n (nsg cl n (wz g)) x y z w bx by' al).2))) =
 sw (decide ((rB g n (nsg cl n (wz g)) x y z w bx by' al).2 < (rA g n (nsg cl n (wz g)) x y z w ax ay al).2))
(g (2 * Int.toNat ((rA g n (nsg cl n (wz g)) x y z w ax ay al).2))) (g (2 * Int.toNat ((rB g n (nsg cl n (wz
 g)) x y z w bx by' al).2))) ∧ sw false (g (2 * Int.toNat ((rA g n (nsg cl n (wz g)) x y z w ax ay al).2) + 1)) (g (2 * Int.toNat (Prod.snd
(rB g n (nsg cl n (wz g)) x y z w bx by' al)) + 1)) = sw (decide ((rB g n (nsg cl n (wz g)) x y z w bx by'
 al).2 < (rA g n (nsg cl n (wz g)) x y z w ax ay al).2)) (g (2 * Int.toNat ((rA g n (nsg cl n (wz g)) x y z w ax ay al).2)
+ 1)) (g (2 * Int.toNat ((rB g n (nsg cl n (wz g)) x y z w bx by' al).2) + 1)) ∧ sw false (g (2 * nx n (Int.toNat
((rA g n (nsg cl n (wz g)) x y z w ax ay al).2)))) (g (2 * nx n (Int.toNat ((rB g n (nsg cl n (wz
 g)) x y z w bx by' al).2)))) = sw (decide ((rB g n (nsg cl n (wz g)) x y z w bx by' al).2 < (rA g n (nsg cl n
(wz g)) x y z w ax ay al).2)) (g (2 * nx n (Int.toNat ((rA g n (nsg cl n (wz g)) x y z w ax ay al).2)))) (g (2 * nx n
(Int.toNat ((rB g n (nsg cl n (wz g)) x y z w bx by' al).2)))) ∧ sw false (g (2 * nx n (Int.toNat ((rA g n
(nsg cl n (wz g)) x y z w ax ay al).2)) + 1)) (g (2 * nx n (Int.toNat ((rB g n (nsg cl n (wz g)) x y z w bx by' al).2)) +
1)) = sw (decide ((rB g n (nsg cl n (wz g)) x y z w bx by' al).2 < (rA g n (nsg cl n (wz g)) x y z w
 ax ay al).2)) (g (2 * nx n (Int.toNat ((rA g n (nsg cl n (wz g)) x y z w ax ay al).2)) + 1)) (g (2 * nx n (Int.toNat (Prod.snd
(rB g n (nsg cl n (wz g)) x y z w bx by' al))) + 1)) ∧ True) ∧ True ∧ (111 = 111 ∧ 0 = 0 ∧ sw false (g (2 * Int.toNat (Prod.snd
(rB g n (nsg cl n (wz g)) x y z w bx by' al)))) (g (2 * Int.toNat ((rA g n (nsg cl n (wz g)) x y z w ax ay al).2))) =
 sw (decide ((rB g n (nsg cl n (wz g)) x y z w bx by' al).2 < (rA g n (nsg cl n (wz g)) x y z w ax ay al).2))
(g (2 * Int.toNat ((rB g n (nsg cl n (wz g)) x y z w bx by' al).2))) (g (2 * Int.toNat ((rA g n (nsg cl n (wz
 g)) x y z w ax ay al).2))) ∧ sw false (g (2 * Int.toNat ((rB g n (nsg cl n (wz g)) x y z w bx by' al).2) + 1)) (g (2 * Int.toNat (Prod.snd
(rA g n (nsg cl n (wz g)) x y z w ax ay al)) + 1)) = sw (decide ((rB g n (nsg cl n (wz g)) x y z w bx by'
 al).2 < (rA g n (nsg cl n (wz g)) x y z w ax ay al).2)) (g (2 * Int.toNat ((rB g n (nsg cl n (wz g)) x y z w bx by' al).2)
+ 1)) (g (2 * Int.toNat ((rA g n (nsg cl n (wz g)) x y z w ax ay al).2) + 1)) ∧ sw false (g (2 * nx n (Int.toNat
((rB g n (nsg cl n (wz g)) x y z w bx by' al).2)))) (g (2 * nx n (Int.toNat ((rA g n (nsg cl n (wz
 g)) x y z w ax ay al).2)))) = sw (decide ((rB g n (nsg cl n (wz g)) x y z w bx by' al).2 < (rA g n (nsg cl n
(wz g)) x y z w ax ay al).2)) (g (2 * nx n (Int.toNat ((rB g n (nsg cl n (wz g)) x y z w bx by' al).2)))) (g (2 * nx n
(Int.toNat ((rA g n (nsg cl n (wz g)) x y z w ax ay al).2)))) ∧ sw false (g (2 * nx n (Int.toNat ((rB g n
(nsg cl n (wz g)) x y z w bx by' al).2)) + 1)) (g (2 * nx n (Int.toNat ((rA g n (nsg cl n (wz g)) x y z w ax ay al).2)) +
1)) = sw (decide ((rB g n (nsg cl n (wz g)) x y z w bx by' al).2 < (rA g n (nsg cl n (wz g)) x y z w
 ax ay al).2)) (g (2 * nx n (Int.toNat ((rB g n (nsg cl n (wz g)) x y z w bx by' al).2)) + 1)) (g (2 * nx n (Int.toNat (Prod.snd
(rA g n (nsg cl n (wz g)) x y z w ax ay al))) + 1)) ∧ True) ∧ True)) ∧ ∀ (_ : Nat), P22 g n (nsg cl n (wz g)) cv x y z w ax ay bx by'
 al → ((∃ (i : Nat), (i ≤ 4 ∧ P22 g n (nsg cl n (wz g)) cv x y z w ax ay bx by' al) ∧ ((True ∧ 0 = 0) ∧ al = al ∧ (True ∧ 0 = 0) ∧ (True ∧ 0 = 0) ∧ (True ∧ 0 = 0) ∧ (True ∧ 0 = 0) ∧ 0 = cw4F (hcw g n (Int.toNat ((rA g n (nsg cl n (wz g)) x y z w ax ay
 al).2)) (Int.toNat ((rB g n (nsg cl n (wz g)) x y z w bx by' al).2)) (decide ((rB g n (nsg cl n (wz g)) x y z w bx by' al).2 <
 (rA g n (nsg cl n (wz g)) x y z w ax ay al).2))) i ∧ 0 = (↑i : Int) ∧ True) ∧ True ∧ (cl = cl ∧ cw = cw ∧ cv = cv ∧ k = k ∧ True ∧ x = x ∧ y = y ∧ z = z ∧ w = w ∧ (True ∧ n = n) ∧
 True) ∧ True ∧ (2 * n ≤ 2 * n ∧ ∀ (i : Nat), i < 2 * n → g i = g i) ∧ True ∧ (111 = 111 ∧ 0 = 0 ∧ ax = ax ∧ ay = ay ∧ bx = bx ∧ by' = by' ∧ True) ∧ True ∧ (238 = 238 ∧ 0
= 0 ∧ (rA g n (nsg cl n (wz g)) x y z w ax ay al).1 = (rA g n (nsg cl n (wz g)) x y z w ax ay al).1 ∧ Prod.snd
(rA g n (nsg cl n (wz g)) x y z w ax ay al) = (rA g n (nsg cl n (wz g)) x y z w ax ay al).2 ∧ True) ∧ True ∧ (238 = 238
∧ 0 = 0 ∧ (rB g n (nsg cl n (wz g)) x y z w bx by' al).1 = (rB g n (nsg cl n (wz g)) x y z w bx by' al).1 ∧
 (rB g n (nsg cl n (wz g)) x y z w bx by' al).2 = (rB g n (nsg cl n (wz g)) x y z w bx by' al).2 ∧ True) ∧ True ∧ (258 =
258 ∧ 0 = 0 ∧ 10 ≤ List.length [sw (decide ((rB g n (nsg cl n (wz g)) x y z w bx by' al).2 < (rA g n
(nsg cl n (wz g)) x y z w ax ay al).2)) (g (2 * Int.toNat ((rA g n (nsg cl n (wz g)) x y z w ax ay al).2))) (g (2 * Int.toNat (Prod.snd
(rB g n (nsg cl n (wz g)) x y z w bx by' al)))), sw (decide ((rB g n (nsg cl n (wz g)) x y z w bx by' al).2 <
 (rA g n (nsg cl n (wz g)) x y z w ax ay al).2)) (g (2 * Int.toNat ((rA g n (nsg cl n (wz g)) x y z w ax ay al).2) + 1)) (g (2 * Int.toNat ((rB g n (nsg cl n (wz g)) x y z w bx by' al).2) + 1)), sw (decide ((rB g n (nsg cl n
(wz g)) x y z w bx by' al).2 < (rA g n (nsg cl n (wz g)) x y z w ax ay al).2)) (g (2 * nx n (Int.toNat ((rA g n
(nsg cl n (wz g)) x y z w ax ay al).2)))) (g (2 * nx n (Int.toNat ((rB g n (nsg cl n (wz g)) x y z w bx by' al).2)))),
 sw (decide ((rB g n (nsg cl n (wz g)) x y z w bx by' al).2 < (rA g n (nsg cl n (wz g)) x y z w ax ay al).2))
(g (2 * nx n (Int.toNat ((rA g n (nsg cl n (wz g)) x y z w ax ay al).2)) + 1)) (g (2 * nx n (Int.toNat (Prod.snd
(rB g n (nsg cl n (wz g)) x y z w bx by' al))) + 1)), sw (decide ((rB g n (nsg cl n (wz g)) x y z w bx by'
 al).2 < (rA g n (nsg cl n (wz g)) x y z w ax ay al).2)) (g (2 * Int.toNat ((rB g n (nsg cl n (wz g)) x y z w bx by'
 al).2))) (g (2 * Int.toNat ((rA g n (nsg cl n (wz g)) x y z w ax ay al).2))), sw (decide ((rB g n (nsg cl n
(wz g)) x y z w bx by' al).2 < (rA g n (nsg cl n (wz g)) x y z w ax ay al).2)) (g (2 * Int.toNat ((rB g n (nsg cl n
(wz g)) x y z w bx by' al).2) + 1)) (g (2 * Int.toNat ((rA g n (nsg cl n (wz g)) x y z w ax ay al).2) + 1)), sw (decide (Prod.snd
(rB g n (nsg cl n (wz g)) x y z w bx by' al) < (rA g n (nsg cl n (wz g)) x y z w ax ay al).2)) (g (2 * nx n
(Int.toNat ((rB g n (nsg cl n (wz g)) x y z w bx by' al).2)))) (g (2 * nx n (Int.toNat ((rA g n (nsg cl n
(wz g)) x y z w ax ay al).2)))), sw (decide ((rB g n (nsg cl n (wz g)) x y z w bx by' al).2 < (rA g n (nsg cl
 n (wz g)) x y z w ax ay al).2)) (g (2 * nx n (Int.toNat ((rB g n (nsg cl n (wz g)) x y z w bx by' al).2)) + 1)) (g (2 *
 nx n (Int.toNat ((rA g n (nsg cl n (wz g)) x y z w ax ay al).2)) + 1)), sw (decide ((rB g n (nsg cl
 n (wz g)) x y z w bx by' al).2 < (rA g n (nsg cl n (wz g)) x y z w ax ay al).2)) (g (2 * Int.toNat ((rA g n (nsg cl n
(wz g)) x y z w ax ay al).2))) (g (2 * Int.toNat ((rB g n (nsg cl n (wz g)) x y z w bx by' al).2))), sw (decide ((rB g n
(nsg cl n (wz g)) x y z w bx by' al).2 < (rA g n (nsg cl n (wz g)) x y z w ax ay al).2)) (g (2 * Int.toNat ((rA g n
(nsg cl n (wz g)) x y z w ax ay al).2) + 1)) (g (2 * Int.toNat ((rB g n (nsg cl n (wz g)) x y z w bx by' al).2) + 1))] ∧ ∀ (i :
 Nat), i < 10 → List.getD [sw (decide ((rB g n (nsg cl n (wz g)) x y z w bx by' al).2 < (rA g n (nsg cl n
(wz g)) x y z w ax ay al).2)) (g (2 * Int.toNat ((rA g n (nsg cl n (wz g)) x y z w ax ay al).2))) (g (2 * Int.toNat ((rB g n
(nsg cl n (wz g)) x y z w bx by' al).2))), sw (decide ((rB g n (nsg cl n (wz g)) x y z w bx by' al).2 < (rA g
 n (nsg cl n (wz g)) x y z w ax ay al).2)) (g (2 * Int.toNat ((rA g n (nsg cl n (wz g)) x y z w ax ay al).2) + 1)) (g (2 * Int.toNat
((rB g n (nsg cl n (wz g)) x y z w bx by' al).2) + 1)), sw (decide ((rB g n (nsg cl n (wz g)) x y z
 w bx by' al).2 < (rA g n (nsg cl n (wz g)) x y z w ax ay al).2)) (g (2 * nx n (Int.toNat ((rA g n (nsg cl n
(wz g)) x y z w ax ay al).2)))) (g (2 * nx n (Int.toNat ((rB g n (nsg cl n (wz g)) x y z w bx by' al).2)))), sw (decide (Prod.snd
(rB g n (nsg cl n (wz g)) x y z w bx by' al) < (rA g n (nsg cl n (wz g)) x y z w ax ay al).2)) (g (2 * nx n
(Int.toNat ((rA g n (nsg cl n (wz g)) x y z w ax ay al).2)) + 1)) (g (2 * nx n (Int.toNat ((rB g n (nsg cl n
(wz g)) x y z w bx by' al).2)) + 1)), sw (decide ((rB g n (nsg cl n (wz g)) x y z w bx by' al).2 < (rA g n
(nsg cl n (wz g)) x y z w ax ay al).2)) (g (2 * Int.toNat ((rB g n (nsg cl n (wz g)) x y z w bx by' al).2))) (g (2 * Int.toNat (Prod.snd
(rA g n (nsg cl n (wz g)) x y z w ax ay al)))), sw (decide ((rB g n (nsg cl n (wz g)) x y z w bx by' al).2 < Prod.snd
(rA g n (nsg cl n (wz g)) x y z w ax ay al))) (g (2 * Int.toNat ((rB g n (nsg cl n (wz g)) x y z w bx by' al).2) + 1))
(g (2 * Int.toNat ((rA g n (nsg cl n (wz g)) x y z w ax ay al).2) + 1)), sw (decide ((rB g n (nsg cl n
(wz g)) x y z w bx by' al).2 < (rA g n (nsg cl n (wz g)) x y z w ax ay al).2)) (g (2 * nx n (Int.toNat ((rB g n
(nsg cl n (wz g)) x y z w bx by' al).2)))) (g (2 * nx n (Int.toNat ((rA g n (nsg cl n (wz g)) x y z w ax ay al).2)))),
 sw (decide ((rB g n (nsg cl n (wz g)) x y z w bx by' al).2 < (rA g n (nsg cl n (wz g)) x y z w ax ay al).2))
(g (2 * nx n (Int.toNat ((rB g n (nsg cl n (wz g)) x y z w bx by' al).2)) + 1)) (g (2 * nx n (Int.toNat (Prod.snd
(rA g n (nsg cl n (wz g)) x y z w ax ay al))) + 1)), sw (decide ((rB g n (nsg cl n (wz g)) x y z w bx by'
 al).2 < (rA g n (nsg cl n (wz g)) x y z w ax ay al).2)) (g (2 * Int.toNat ((rA g n (nsg cl n (wz g)) x y z w ax ay
 al).2))) (g (2 * Int.toNat ((rB g n (nsg cl n (wz g)) x y z w bx by' al).2))), sw (decide ((rB g n (nsg cl n
(wz g)) x y z w bx by' al).2 < (rA g n (nsg cl n (wz g)) x y z w ax ay al).2)) (g (2 * Int.toNat ((rA g n (nsg cl n
(wz g)) x y z w ax ay al).2) + 1)) (g (2 * Int.toNat ((rB g n (nsg cl n (wz g)) x y z w bx by' al).2) + 1))] i 0 = hcw g n
(Int.toNat ((rA g n (nsg cl n (wz g)) x y z w ax ay al).2)) (Int.toNat ((rB g n (nsg cl n (wz g)) x y z w bx by' al).2)) (decide
((rB g n (nsg cl n (wz g)) x y z w bx by' al).2 < (rA g n (nsg cl n (wz g)) x y z w ax ay al).2)) i) ∧ True) ∧ ∀ (i : Nat), i ≤
4 ∧ P22 g n (nsg cl n (wz g)) cv x y z w ax ay bx by' al → (decide ((↑i : Int) < 4) = true → ((0 ≤ (↑i : Int) ∧ (↑i : Int) < 5) ∧ 1 ≤ 10) ∧ 0 + Int.toNat (↑i : Int) * 2 + 2 ≤ 10 ∧ (((0 : Int) ≤ Go.IntKind.wrap .i64 ((↑i : Int) + 1) ∧ Go.IntKind.wrap .i64 ((↑i : Int) + 1) < (5 : Int)) ∧ 1 ≤ 10) ∧ 0 + Int.toNat
(Go.IntKind.wrap .i64 ((↑i : Int) + 1)) * 2 + 2 ≤ 10 ∧ true = true ∧ fok BinOp.sub .f64 (hcw g n (Int.toNat ((rA g n (nsg cl n (wz
 g)) x y z w ax ay al).2)) (Int.toNat ((rB g n (nsg cl n (wz g)) x y z w bx by' al).2)) (decide ((rB g n (nsg cl n (wz g)) x y z
 w bx by' al).2 < (rA g n (nsg cl n (wz g)) x y z w ax ay al).2)) (0 + Int.toNat (Go.IntKind.wrap .i64 ((↑i : Int) + 1)) * 2)) (hcw g n (Int.toNat
((rA g n (nsg cl n (wz g)) x y z w ax ay al).2)) (Int.toNat ((rB g n (nsg cl n (wz g)) x y z w bx by' al).2)) (decide (Prod.snd
(rB g n (nsg cl n (wz g)) x y z w bx by' al) < (rA g n (nsg cl n (wz g)) x y z w ax ay al).2)) (0 + Int.toNat (↑i : Int) * 2)) ∧ fok BinOp.add .f64 (hcw g n (Int.toNat ((rA g n (nsg cl n (wz g)) x y z w ax ay al).2)) (Int.toNat ((rB g n
(nsg cl n (wz g)) x y z w bx by' al).2)) (decide ((rB g n (nsg cl n (wz g)) x y z w bx by' al).2 < (rA g n
(nsg cl n (wz g)) x y z w ax ay al).2)) (0 + Int.toNat (Go.IntKind.wrap .i64 ((↑i : Int) + 1)) * 2 + 1)) (hcw g n (Int.toNat ((rA g n
(nsg cl n (wz g)) x y z w ax ay al).2)) (Int.toNat ((rB g n (nsg cl n (wz g)) x y z w bx by' al).2)) (decide ((rB g n
(nsg cl n (wz g)) x y z w bx by' al).2 < (rA g n (nsg cl n (wz g)) x y z w ax ay al).2)) (0 + Int.toNat (↑i : Int) * 2 + 1)) ∧
 fok BinOp.mul .f64 (fop BinOp.sub .f64 (hcw g n (Int.toNat ((rA g n (nsg cl n (wz g)) x y z w ax ay al).2)) (Int.toNat ((rB g n
(nsg cl n (wz g)) x y z w bx by' al).2)) (decide ((rB g n (nsg cl n (wz g)) x y z w bx by' al).2 < (rA g n
(nsg cl n (wz g)) x y z w ax ay al).2)) (0 + Int.toNat (Go.IntKind.wrap .i64 ((↑i : Int) + 1)) * 2)) (hcw g n (Int.toNat ((rA g n
(nsg cl n (wz g)) x y z w ax ay al).2)) (Int.toNat ((rB g n (nsg cl n (wz g)) x y z w bx by' al).2)) (decide ((rB g n
(nsg cl n (wz g)) x y z w bx by' al).2 < (rA g n (nsg cl n (wz g)) x y z w ax ay al).2)) (0 + Int.toNat (↑i : Int) * 2))) (fop
 BinOp.add .f64 (hcw g n (Int.toNat ((rA g n (nsg cl n (wz g)) x y z w ax ay al).2)) (Int.toNat ((rB g n (nsg cl n
(wz g)) x y z w bx by' al).2)) (decide ((rB g n (nsg cl n (wz g)) x y z w bx by' al).2 < (rA g n (nsg cl n (wz
 g)) x y z w ax ay al).2)) (0 + Int.toNat (Go.IntKind.wrap .i64 ((↑i : Int) + 1)) * 2 + 1)) (hcw g n (Int.toNat ((rA g n (nsg cl n (wz g)) x
 y z w ax ay al).2)) (Int.toNat ((rB g n (nsg cl n (wz g)) x y z w bx by' al).2)) (decide ((rB g n (nsg cl n (wz g)) x y z w bx
 by' al).2 < (rA g n (nsg cl n (wz g)) x y z w ax ay al).2)) (0 + Int.toNat (↑i : Int) * 2 + 1))) ∧ fok BinOp.add .f64 (cw4F
(hcw g n (Int.toNat ((rA g n (nsg cl n (wz g)) x y z w ax ay al).2)) (Int.toNat ((rB g n (nsg cl n (wz g)) x
 y z w bx by' al).2)) (decide ((rB g n (nsg cl n (wz g)) x y z w bx by' al).2 < (rA g n (nsg cl n (wz g)) x y z w ax ay al).2))) i)
(fop BinOp.mul .f64 (fop BinOp.sub .f64 (hcw g n (Int.toNat ((rA g n (nsg cl n (wz g)) x y z w ax ay al).2)) (Int.toNat ((rB g n
(nsg cl n (wz g)) x y z w bx by' al).2)) (decide ((rB g n (nsg cl n (wz g)) x y z w bx by' al).2 < (rA g n
(nsg cl n (wz g)) x y z w ax ay al).2)) (0 + Int.toNat (Go.IntKind.wrap .i64 ((↑i : Int) + 1)) * 2)) (hcw g n (Int.toNat ((rA g n
(nsg cl n (wz g)) x y z w ax ay al).2)) (Int.toNat ((rB g n (nsg cl n (wz g)) x y z w bx by' al).2)) (decide ((rB g n
(nsg cl n (wz g)) x y z w bx by' al).2 < (rA g n (nsg cl n (wz g)) x y z w ax ay al).2)) (0 + Int.toNat (↑i : Int) * 2))) (fop
 BinOp.add .f64 (hcw g n (Int.toNat ((rA g n (nsg cl n (wz g)) x y z w ax ay al).2)) (Int.toNat ((rB g n (nsg cl n
(wz g)) x y z w bx by' al).2)) (decide ((rB g n (nsg cl n (wz g)) x y z w bx by' al).2 < (rA g n (nsg cl n (wz
 g)) x y z w ax ay al).2)) (0 + Int.toNat (Go.IntKind.wrap .i64 ((↑i : Int) + 1)) * 2 + 1)) (hcw g n (Int.toNat ((rA g n (nsg cl n (wz g)) x
 y z w ax ay al).2)) (Int.toNat ((rB g n (nsg cl n (wz g)) x y z w bx by' al).2)) (decide ((rB g n (nsg cl n (wz g)) x y z w bx
 by' al).2 < (rA g n (nsg cl n (wz g)) x y z w ax ay al).2)) (0 + Int.toNat (↑i : Int) * 2 + 1)))) ∧ ∃ (i' : Nat), (i' ≤ 4 ∧ P22 g n
(nsg cl n (wz g)) cv x y z w ax ay bx by' al) ∧ 4 - i' < 4 - i ∧ ((True ∧ 0 = 0) ∧ al = al ∧ (True ∧ 0 = 0) ∧ (True ∧ 0 = 0) ∧ (True ∧ 0 = 0) ∧ (True ∧ 0 = 0) ∧ fop BinOp.add .f64 (cw4F (hcw g n (Int.toNat ((rA g n (nsg cl n (wz g)) x y z w ax ay al).2)) (Int.toNat
((rB g n (nsg cl n (wz g)) x y z w bx by' al).2)) (decide ((rB g n (nsg cl n (wz g)) x y z w bx by' al).2 < Prod.snd
(rA g n (nsg cl n (wz g)) x y z w ax ay al)))) i) (fop BinOp.mul .f64 (fop BinOp.sub .f64 (hcw g n (Int.toNat ((rA g n
(nsg cl n (wz g)) x y z w ax ay al).2)) (Int.toNat ((rB g n (nsg cl n (wz g)) x y z w bx by' al).2)) (decide ((rB g n
(nsg cl n (wz g)) x y z w bx by' al).2 < (rA g n (nsg cl n (wz g)) x y z w ax ay al).2)) (0 + Int.toNat (Go.IntKind.wrap .i64 ((↑i : Int) + (1 :
 Int))) * 2)) (hcw g n (Int.toNat ((rA g n (nsg cl n (wz g)) x y z w ax ay al).2)) (Int.toNat ((rB g n (nsg cl n
(wz g)) x y z w bx by' al).2)) (decide ((rB g n (nsg cl n (wz g)) x y z w bx by' al).2 < (rA g n (nsg cl n (wz
 g)) x y z w ax ay al).2)) (0 + Int.toNat (↑i : Int) * 2))) (fop BinOp.add .f64 (hcw g n (Int.toNat ((rA g n (nsg cl n (wz g)) x y z w ax ay al).2))
(Int.toNat ((rB g n (nsg cl n (wz g)) x y z w bx by' al).2)) (decide ((rB g n (nsg cl n (wz g)) x y z w bx by' al).2 < Prod.snd
(rA g n (nsg cl n (wz g)) x y z w ax ay al))) (0 + Int.toNat (Go.IntKind.wrap .i64 ((↑i : Int) + 1)) * 2 + 1)) (hcw g n (Int.toNat (Prod.snd
(rA g n (nsg cl n (wz g)) x y z w ax ay al))) (Int.toNat ((rB g n (nsg cl n (wz g)) x y z w bx by' al).2)) (decide (Prod.snd
(rB g n (nsg cl n (wz g)) x y z w bx by' al) < (rA g n (nsg cl n (wz g)) x y z w ax ay al).2)) (0 + Int.toNat (↑i : Int) * 2 + 1)))) = cw4F (hcw g n (Int.toNat ((rA g n (nsg cl n (wz g)) x y z w ax ay al).2)) (Int.toNat ((rB g n
(nsg cl n (wz g)) x y z w bx by' al).2)) (decide ((rB g n (nsg cl n (wz g)) x y z w bx by' al).2 < (rA g n
(nsg cl n (wz g)) x y z w ax ay al).2))) i' ∧ Go.IntKind.wrap .i64 ((↑i : Int) + 1) = (↑i' : Int) ∧ True) ∧ True ∧ (cl = cl ∧ cw = cw ∧ cv = cv ∧ k = k ∧ True ∧ x = x ∧ y = y ∧ z = z ∧ w = w ∧ (True ∧ n = n)
∧ True) ∧ True ∧ (2 * n ≤ 2 * n ∧ ∀ (i : Nat), i < 2 * n → g i = g i) ∧ True ∧ (111 = 111 ∧ 0 = 0 ∧ ax = ax ∧ ay = ay ∧ bx = bx ∧ by' = by' ∧ True) ∧ True ∧ (238 = 238 ∧ 0 = 0 ∧ (rA g n (nsg cl n (wz g)) x y z w ax ay al).1 = (rA g n (nsg cl n (wz g)) x y z w ax ay al).1 ∧ Prod.snd
(rA g n (nsg cl n (wz g)) x y z w ax ay al) = (rA g n (nsg cl n (wz g)) x y z w ax ay al).2 ∧ True) ∧ True ∧ (238 = 238
∧ 0 = 0 ∧ (rB g n (nsg cl n (wz g)) x y z w bx by' al).1 = (rB g n (nsg cl n (wz g)) x y z w bx by' al).1 ∧
 (rB g n (nsg cl n (wz g)) x y z w bx by' al).2 = (rB g n (nsg cl n (wz g)) x y z w bx by' al).2 ∧ True) ∧ True ∧ (258 =
258 ∧ 0 = 0 ∧ 10 ≤ 10 ∧ ∀ (i : Nat), i < 10 → hcw g n (Int.toNat ((rA g n (nsg cl n (wz g)) x y z w ax ay al).2))
(Int.toNat ((rB g n (nsg cl n (wz g)) x y z w bx by' al).2)) (decide ((rB g n (nsg cl n (wz g)) x y z w bx by' al).2 < Prod.snd
(rA g n (nsg cl n (wz g)) x y z w ax ay al))) i = hcw g n (Int.toNat ((rA g n (nsg cl n (wz g)) x y z w ax ay al).2))
(Int.toNat ((rB g n (nsg cl n (wz g)) x y z w bx by' al).2)) (decide ((rB g n (nsg cl n (wz g)) x y z w bx by' al).2 < Prod.snd
(rA g n (nsg cl n (wz g)) x y z w ax ay al))) i) ∧ True) ∧ (decide ((↑i : Int) < 4) = false → ∃ (_ : Nat), P22 g n (nsg cl n (wz g))
 cv x y z w ax ay bx by' al ∧ ((True ∧ 0 = 0) ∧ al = al ∧ (True ∧ 0 = 0) ∧ (True ∧ 0 = 0) ∧ (True ∧ 0 = 0) ∧ cw4F (hcw g n (Int.toNat (Prod.snd
(rA g n (nsg cl n (wz g)) x y z w ax ay al))) (Int.toNat ((rB g n (nsg cl n (wz g)) x y z w bx by' al).2)) (decide (Prod.snd
(rB g n (nsg cl n (wz g)) x y z w bx by' al) < (rA g n (nsg cl n (wz g)) x y z w ax ay al).2))) i = cw4F
(hcw g n (Int.toNat ((rA g n (nsg cl n (wz g)) x y z w ax ay al).2)) (Int.toNat ((rB g n (nsg cl n (wz g)) x
 y z w bx by' al).2)) (decide ((rB g n (nsg cl n (wz g)) x y z w bx by' al).2 < (rA g n (nsg cl n (wz g)) x y z w ax ay al).2))) 4 ∧ True) ∧ True ∧ (cl = cl ∧ cw = cw ∧ cv = cv ∧ k = k ∧ True ∧ x = x ∧ y = y ∧ z = z ∧ w = w ∧ (True ∧ n = n) ∧ True) ∧ True ∧ (2 * n ≤ 2 * n ∧ ∀ (i : Nat), i < 2 * n → g i = g i) ∧ True ∧ (111 = 111 ∧
0 = 0 ∧ ax = ax ∧ ay = ay ∧ bx = bx ∧ by' = by' ∧ True) ∧ True ∧ (238 = 238 ∧ 0 = 0 ∧ (rA g n (nsg cl n (wz g)) x y z w ax ay al).1 =
 (rA g n (nsg cl n (wz g)) x y z w ax ay al).1 ∧ (rA g n (nsg cl n (wz g)) x y z w ax ay al).2 = (rA g
 n (nsg cl n (wz g)) x y z w ax ay al).2 ∧ True) ∧ True ∧ (238 = 238 ∧ 0 = 0 ∧ (rB g n (nsg cl n (wz g)) x y z w bx by'
 al).1 = (rB g n (nsg cl n (wz g)) x y z w bx by' al).1 ∧ (rB g n (nsg cl n (wz g)) x y z w bx by' al).2 = Prod.snd
(rB g n (nsg cl n (wz g)) x y z w bx by' al) ∧ True) ∧ True)) ∧ ∀ (_ : Nat), P22 g n (nsg cl n (wz g)) cv x y z w ax ay bx by' al → (2
* n = 2 * n ∧ True) ∧ ((!fGt .f64 (cw4F (hcw g n (Int.toNat ((rA g n (nsg cl n (wz g)) x y z w ax ay al).2)) (Int.toNat (Prod.snd
(rB g n (nsg cl n (wz g)) x y z w bx by' al))) (decide ((rB g n (nsg cl n (wz g)) x y z w bx by' al).2 < (rA
 g n (nsg cl n (wz g)) x y z w ax ay al).2))) 4) 0 == cw) = true → rcs g n (nsg cl n (wz g)) cw cv x y z w ax ay bx by' al = false ∧ True) ∧
((!fGt .f64 (cw4F (hcw g n (Int.toNat ((rA g n (nsg cl n (wz g)) x y z w ax ay al).2)) (Int.toNat ((rB g n
(nsg cl n (wz g)) x y z w bx by' al).2)) (decide ((rB g n (nsg cl n (wz g)) x y z w bx by' al).2 < (rA g n
(nsg cl n (wz g)) x y z w ax ay al).2))) 4) 0 == cw) = false → (2 * n = 2 * n ∧ n ≤ 1000000 ∧ SmF g (2 * n) ∧ W1 ax ∧
 W1 ay ∧ W1 bx ∧ W1 by') ∧ true = true ∧ (!(ixV1 g n (fmin ax bx) (fmin ay by') (fmax ax bx) (fmax ay by')
 ax ay bx by' (nsg cl n (wz g)) || false)) = rcs g n (nsg cl n (wz g)) cw cv x y z w ax ay bx by' al ∧ True)) ∧ (((rB g n
(nsg cl n (wz g)) x y z w bx by' al).2 != (-1 : Int)) = false → ∃ (_ : Nat), P37 g n (nsg cl n (wz g)) cv x y z w ax ay bx by' al ∧ ((True ∧ 0 = 0) ∧ al = al ∧ (True ∧ 0 = 0) ∧ (True ∧ 0 = 0) ∧ (True ∧ 0 = 0) ∧ True) ∧ True ∧ (cl = cl ∧ cw = cw ∧ cv = cv ∧ k = k ∧ True ∧ x = x ∧ y = y ∧ z = z ∧ w = w ∧ (True ∧ n = n) ∧ True) ∧ True ∧ (2 * n ≤ 2 * n ∧ ∀ (i : Nat), i < 2 * n → g i = g i) ∧ True ∧ (111 = 111 ∧ 0 = 0 ∧ ax = ax ∧ ay = ay ∧ bx = bx ∧ by' = by' ∧ True) ∧ True ∧ (238 = 238 ∧ 0 = 0 ∧
 (rA g n (nsg cl n (wz g)) x y z w ax ay al).1 = (rA g n (nsg cl n (wz g)) x y z w ax ay al).1 ∧ (rA g
 n (nsg cl n (wz g)) x y z w ax ay al).2 = (rA g n (nsg cl n (wz g)) x y z w ax ay al).2 ∧ True) ∧ True ∧ (238 = 238 ∧ 0 = 0
∧ (rB g n (nsg cl n (wz g)) x y z w bx by' al).1 = (rB g n (nsg cl n (wz g)) x y z w bx by' al).1 ∧ Prod.snd
(rB g n (nsg cl n (wz g)) x y z w bx by' al) = (rB g n (nsg cl n (wz g)) x y z w bx by' al).2 ∧ True) ∧ True)) ∧ ∀ (_ : Nat),
 P37 g n (nsg cl n (wz g)) cv x y z w ax ay bx by' al → (2 * n = 2 * n ∧ n ≤ 1000000 ∧ SmF g (2 * n) ∧ W1 ax ∧
 W1 ay ∧ W1 bx ∧ W1 by') ∧ true = true ∧ (!(ixV2 g n (fmin ax bx) (fmin ay by') (fmax ax bx) (fmax ay by')
 ax ay bx by' (nsg cl n (wz g)) || false)) = rcs g n (nsg cl n (wz g)) cw cv x y z w ax ay bx by' al ∧ True) ∧ (((rA g n
(nsg cl n (wz g)) x y z w ax ay al).2 != (-1 : Int)) = false → (((rB g n (nsg cl n (wz g)) x y z w bx by' al).2 != (-1 : Int)) = true → (2 * n = 2 * n ∧ n ≤ 1000000 ∧ SmF g (2 * n) ∧ W1 ax ∧ W1 ay ∧ W1 bx ∧ W1 by') ∧ true = true ∧ (!(ixV3 g n (fmin
 ax bx) (fmin ay by') (fmax ax bx) (fmax ay by') ax ay bx by' (nsg cl n (wz g)) || false)) = rcs g n (nsg cl n
(wz g)) cw cv x y z w ax ay bx by' al ∧ True) ∧ (((rB g n (nsg cl n (wz g)) x y z w bx by' al).2 != (-1 : Int)) = false → ∃ (_ : Nat), P44 g n
(nsg cl n (wz g)) cv x y z w ax ay bx by' al ∧ ((True ∧ 0 = 0) ∧ al = al ∧ (True ∧ 0 = 0) ∧ (True ∧ 0 = 0) ∧ (True ∧ 0 = 0) ∧ True) ∧ True ∧ (cl = cl
∧ cw = cw ∧ cv = cv ∧ k = k ∧ True ∧ x = x ∧ y = y ∧ z = z ∧ w = w ∧ (True ∧ n = n) ∧ True) ∧ True ∧ (2 * n ≤ 2 * n ∧ ∀ (i : Nat), i < 2 * n → g i = g i) ∧ True ∧ (111 = 111 ∧ 0 = 0 ∧ ax = ax ∧
 ay = ay ∧ bx = bx ∧ by' = by' ∧ True) ∧ True ∧ (238 = 238 ∧ 0 = 0 ∧ (rA g n (nsg cl n (wz g)) x y z w ax ay al).1 = (rA g n
(nsg cl n (wz g)) x y z w ax ay al).1 ∧ (rA g n (nsg cl n (wz g)) x y z w ax ay al).2 = (rA g n (nsg cl n
(wz g)) x y z w ax ay al).2 ∧ True) ∧ True ∧ (238 = 238 ∧ 0 = 0 ∧ (rB g n (nsg cl n (wz g)) x y z w bx by' al).1 = Prod.fst
(rB g n (nsg cl n (wz g)) x y z w bx by' al) ∧ (rB g n (nsg cl n (wz g)) x y z w bx by' al).2 = (rB g n
(nsg cl n (wz g)) x y z w bx by' al).2 ∧ True) ∧ True))) ∧ ∀ (_ : Nat), P44 g n (nsg cl n (wz g)) cv x y z w ax ay bx by' al → (2 * n = 2 * n ∧ n
≤ 1000000 ∧ SmF g (2 * n) ∧ W1 ax ∧ W1 ay ∧ W1 bx ∧ W1 by') ∧ true = true ∧ (!(ixV4 g n (fmin ax bx)
(fmin ay by') (fmax ax bx) (fmax ay by') ax ay bx by' (nsg cl n (wz g)) || false)) = rcs g n (nsg cl n (wz
 g)) cw cv x y z w ax ay bx by' al ∧ True) ∧ (al = false → ∃ (_ : Nat), P47 g n (nsg cl n (wz g)) cv x y z w ax ay bx by' al ∧ ((True ∧ 0 = 0) ∧ al = al ∧ (True ∧ 0 = 0) ∧ (True ∧ 0 = 0) ∧ (True ∧ 0 = 0) ∧ True) ∧ True ∧ (cl = cl ∧ cw = cw ∧ cv = cv ∧ k = k ∧ True ∧ x = x ∧ y = y ∧ z = z ∧ w = w ∧ (True ∧ n = n) ∧ True) ∧ True ∧ (2 * n ≤ 2 * n ∧ ∀ (i : Nat), i <
2 * n → g i = g i) ∧ True ∧ (111 = 111 ∧ 0 = 0 ∧ ax = ax ∧ ay = ay ∧ bx = bx ∧ by' = by' ∧ True) ∧ True ∧ (238 = 238 ∧ 0 = 0 ∧ (rA g n
(nsg cl n (wz g)) x y z w ax ay al).1 = (rA g n (nsg cl n (wz g)) x y z w ax ay al).1 ∧ (rA g n (nsg cl n
(wz g)) x y z w ax ay al).2 = (rA g n (nsg cl n (wz g)) x y z w ax ay al).2 ∧ True) ∧ True ∧ (238 = 238 ∧ 0 = 0 ∧ Prod.fst
(rB g n (nsg cl n (wz g)) x y z w bx by' al) = (rB g n (nsg cl n (wz g)) x y z w bx by' al).1 ∧ (rB g n
(nsg cl n (wz g)) x y z w bx by' al).2 = (rB g n (nsg cl n (wz g)) x y z w bx by' al).2 ∧ True) ∧ True)) ∧ ∀ (_ : Nat), P47 g n
(nsg cl n (wz g)) cv x y z w ax ay bx by' al → (2 * n = 2 * n ∧ n ≤ 1000000 ∧ SmF g (2 * n) ∧ W1 ax ∧ W1 ay ∧
 W1 bx ∧ W1 by') ∧ true = true ∧ (!(ixV5 g n (fmin ax bx) (fmin ay by') (fmax ax bx) (fmax ay by') ax ay bx by'
(nsg cl n (wz g)) || false)) = rcs g n (nsg cl n (wz g)) cw cv x y z w ax ay bx by' al ∧ True)))))) := by kernel_rfl
theorem rcsS : ConOk Tryz.prog 215 (conR rcsSC) := by
 refine con_of_vc gcsg Tryz.func215 rfl (by kernel_rfl) fun args => ?_
 unfold rcsSC
 split
 · rename_i s ax ay bx by' v
   intro o0
   show RdM.All _ (match serOf o0.c with | some (cl, cw, cv, k, x, y, z, w, p, n) => _ | none => _) _
   split
   · rename_i cl cw cv k x y z w p n hm0
     intro o1
     show RdM.All _ (match fltsFrom .f64 o1.c with | some (m, g) => _ | none => _) _
     split
     · rename_i m1 g hm1
       show RdM.All _ (match v.toB with | some b => _ | none => _) _
       split
       · rename_i al hal
         intro ho
         replace ho : m1 = 2 * n ∧ n ≤ 1000000 ∧ SmF g (2 * n) ∧ W1 ax ∧ W1 ay ∧ W1 bx ∧ W1 by' := ho
         obtain ⟨hsz1, ho⟩ := ho
         subst hsz1
         refine ⟨?_, _, _, (vc_rcsS cl cw cv k x y z w p n ax ay bx by' al g).mpr ?_⟩
         · refine okFlag_mk rfl ⟨?_, ⟨trivial, serOf_spec hm0 (by simp [sgSig, fsts, nth, sameN_self]), ⟨trivial, (contR_flts hm1).1, trivial⟩⟩⟩
           simp [eqvRL, eqvR, fkEq_self, sgSig, fsts, nth, sameN_self, toB_eqvR hal]
         · obtain ⟨hn, hg, h1, h2, h3, h4⟩ := ho
           have hns := nsg_le cl n (wz g)
           have xA := rcp_ix g n (nsg cl n (wz g)) x y z w ax ay al
           have xB := rcp_ix g n (nsg cl n (wz g)) x y z w bx by' al
           have eA : rcp g n (nsg cl n (wz g)) x y z w ax ay al = rA g n (nsg cl n (wz g)) x y z w ax ay al := rfl
           have eB : rcp g n (nsg cl n (wz g)) x y z w bx by' al = rB g n (nsg cl n (wz g)) x y z w bx by' al := rfl
           generalize nsg cl n (wz g) = N at *
           have f1 : (fGe .f64 ax x && fLe .f64 ax z && fGe .f64 ay y && fLe .f64 ay w) = hasF x y z w ax ay := rfl
           have f2 : (fGe .f64 bx x && fLe .f64 bx z && fGe .f64 by' y && fLe .f64 by' w) = hasF x y z w bx by' := rfl
           have f3 := eqP (c := bx) (d := by') (px := ax) (py := ay) h3 h4 h1 h2
           rw [eA] at xA
           rw [eB] at xB
           have hW : n ≤ 1000000 ∧ SmF g (2 * n) ∧ W1 ax ∧ W1 ay ∧ W1 bx ∧ W1 by' := ⟨hn, hg, h1, h2, h3, h4⟩
           simp only [true_and, and_true, eq_self, Nat.le_refl, implies_true, eA, eB, f1, f2, f3]
           refine ⟨fun q1 => ⟨q1, ?_⟩, fun q1 => ⟨q1, fun q2 => ?_, fun q2 => ⟨⟨hn, hg, h1, h2⟩, fun q3 => ?_, fun q3 => ⟨fun q4 => ?_, fun q4 => ⟨⟨hn, hg, h3, h4⟩, fun q5 => ?_, fun q5 => ⟨⟨fun q6 => ?_, fun q6 => ?_⟩, fun _ h13 => ?_⟩⟩⟩⟩⟩⟩
           · unfold rcs; rw [if_pos (.inl (by simpa using q1))]
           · unfold rcs; rw [if_pos (.inr (by simpa using q2))]
           · unfold rcs; rw [if_neg (by simp at q1 q2; simp [q1, q2]), if_pos (by simpa using q3)]
           · have q4 := of_decide_eq_true q4
             unfold rcs; rw [if_neg (by simp at q1 q2; simp [q1, q2]), if_neg (by simp at q3; simp [q3]), if_pos ⟨q4.1.symm, q4.2.symm⟩]
           · have q4 := of_decide_eq_false q4
             unfold rcs; rw [if_neg (by simp at q1 q2; simp [q1, q2]), if_neg (by simp at q3; simp [q3]), if_neg (fun hh => q4 ⟨hh.1.symm, hh.2.symm⟩), if_pos (by simpa using q5)]
           · have q4 := of_decide_eq_false q4
             unfold rcs; rw [if_neg (by simp at q1 q2; simp [q1, q2]), if_neg (by simp at q3; simp [q3]), if_neg (fun hh => q4 ⟨hh.1.symm, hh.2.symm⟩), if_neg (by simp at q5; simp [q5]), if_pos q6]
           · have q4 := of_decide_eq_false q4
             exact ⟨0, by simpa using q1, by simpa using q2, by simpa using q3, fun hh => q4 ⟨hh.1.symm, hh.2.symm⟩, by simpa using q5, q6⟩
           refine ⟨⟨fun ha => ⟨⟨fun qa => ⟨⟨fun qb => ⟨⟨fun qc => ?_, fun qc => ?_⟩, fun _ h18 => ?_⟩, fun qb => ?_⟩, fun _ h37 => ?_⟩, fun qa => ⟨fun qb => ?_, fun qb => ?_⟩⟩, fun _ h44 => ?_⟩, fun ha => ⟨0, h13, ha⟩⟩, fun _ h47 => ⟨hW, by rw [rcs47 h47, Bool.or_false]; rfl⟩⟩
           · rw [rcs13 h13, if_neg (by simp [ha]), if_neg (by simpa using qa), if_neg (by simpa using qb), if_pos (by simpa using qc)]
           · exact ⟨0, h13, ha, by simpa using qa, by simpa using qb, by simpa using qc⟩
           · have iA0 : 0 ≤ (rA g n N x y z w ax ay al).2 ∧ (rA g n N x y z w ax ay al).2 < N := by
               rcases xA with h | h
               · exact absurd h h18.2.2.1
               · exact h
             have iB0 : 0 ≤ (rB g n N x y z w bx by' al).2 ∧ (rB g n N x y z w bx by' al).2 < N := by
               rcases xB with h | h
               · exact absurd h h18.2.2.2.1
               · exact h
             have r18 := rcs18 (cw := cw) h18
             have hwc : ∀ c, ∀ k, k < 10 → W1 (hcw g n (rA g n N x y z w ax ay al).2.toNat (rB g n N x y z w bx by' al).2.toNat c k) := fun c => w1_hcw hg (by omega) (by omega)
             have d22 : ∀ b : Bool, (P22 g n N cv x y z w ax ay bx by' al) ↔ (P18 g n N cv x y z w ax ay bx by' al ∧ endsR g n ax ay bx by' (rA g n N x y z w ax ay al).2.toNat (rB g n N x y z w bx by' al).2.toNat = false) := fun _ => Iff.rfl
             generalize rA g n N x y z w ax ay al = A at *
             generalize rB g n N x y z w bx by' al = B at *
             have n1 := nx_lt (show A.2.toNat < n by omega)
             have n2 := nx_lt (show B.2.toNat < n by omega)
             refine ⟨⟨iA0.1, by omega, hn⟩, ⟨iB0.1, by omega, hn⟩, ?_, fun _ h22 => ?_⟩
             · rw [eqP (hg _ (by omega)) (hg _ (by omega)) h1 h2, eqP (hg _ (by omega)) (hg _ (by omega)) h1 h2, eqP (hg _ (by omega)) (hg _ (by omega)) h1 h2, eqP (hg _ (by omega)) (hg _ (by omega)) h1 h2,
                 eqP (hg _ (by omega)) (hg _ (by omega)) h3 h4, eqP (hg _ (by omega)) (hg _ (by omega)) h3 h4, eqP (hg _ (by omega)) (hg _ (by omega)) h3 h4, eqP (hg _ (by omega)) (hg _ (by omega)) h3 h4]
               refine ⟨fun e1 => ?_, fun e1 => ⟨fun e2 => ?_, fun e2 => ⟨fun e3 => ?_, fun e3 => ⟨fun e4 => ?_, fun e4 => ⟨fun e5 => ?_, fun e5 => ⟨fun e6 => ?_, fun e6 => ⟨fun e7 => ?_, fun e7 => ⟨fun e8 => ?_, fun e8 => ⟨0, (d22 true).2 ⟨h18, ?_⟩, ?_⟩⟩⟩⟩⟩⟩⟩⟩⟩
               · rw [r18, if_pos (by unfold endsR eqW; rw [e1]; simp)]
               · rw [r18, if_pos (by unfold endsR eqW; rw [e2]; simp)]
               · rw [r18, if_pos (by unfold endsR eqW; rw [e3]; simp)]
               · rw [r18, if_pos (by unfold endsR eqW; rw [e4]; simp)]
               · rw [r18, if_pos (by unfold endsR eqW; rw [e5]; simp)]
               · rw [r18, if_pos (by unfold endsR eqW; rw [e6]; simp)]
               · rw [r18, if_pos (by unfold endsR eqW; rw [e7]; simp)]
               · rw [r18, if_pos (by unfold endsR eqW; rw [e8]; simp)]
               · unfold endsR eqW; rw [e1, e2, e3, e4, e5, e6, e7, e8]; rfl
               · simp [sw]
             · have hc := hwc (decide (B.2 < A.2))
               have e22 := ((d22 true).1 h22).2
               rw [e22, if_neg (by simp)] at r18
               refine ⟨⟨fun q => ⟨0, h22, by rw [q]; simp [sw]⟩, fun q => ⟨0, h22, by rw [q]; simp [sw]⟩⟩, fun _ _ => ⟨⟨⟨0, ⟨by omega, h22⟩, ⟨rfl, rfl⟩, by simp, fun i _ => rfl⟩, fun i hi => ⟨fun q => ?_, fun q => ?_⟩⟩, fun _ _ => ?_⟩⟩
               · have q := of_decide_eq_true q
                 have hw : IntKind.i64.wrap ((i : Int) + 1) = ((i + 1 : Nat) : Int) := by rw [wrap64 (by omega) (by omega)]; omega
                 have e : 0 + (i : Int).toNat * 2 = 2 * i := by omega
                 have e' : 0 + ((i + 1 : Nat) : Int).toNat * 2 = 2 * (i + 1) := by omega
                 obtain ⟨k1, k2, k3, k4, _⟩ := (cw4_F hc i (by omega)).2.2 (by omega)
                 rw [hw, e, e']
                 exact ⟨⟨⟨by omega, by omega⟩, by omega⟩, by omega, ⟨⟨by omega, by omega⟩, by omega⟩, by omega, k1, k2, k3, k4, i + 1, ⟨by omega, h22⟩, by omega, rfl, rfl⟩
               · have q := of_decide_eq_false q
                 have : i = 4 := by omega
                 subst this
                 exact ⟨0, h22, rfl⟩
               · rw [fgt_I (cw4_F hc 4 (by omega)).1 zero_FI]
                 refine ⟨fun q => ?_, fun q => ⟨hW, ?_⟩⟩
                 · rw [r18, if_neg (by simpa using q)]
                 · rw [r18, if_pos (by simpa using q), Bool.or_false]; rfl
           · exact ⟨0, h13, ha, by simpa using qa, by simpa using qb⟩
           · exact ⟨hW, by rw [rcs37 h37, Bool.or_false]; rfl⟩
           · refine ⟨hW, ?_⟩
             rw [rcs13 h13, if_neg (by simp [ha]), if_pos (by simpa using qa), if_neg (by simpa using qb), Bool.or_false]; rfl
           · exact ⟨0, h13, ha, by simpa using qa, by simpa using qb⟩
           · exact ⟨hW, by rw [rcs44 h44, Bool.or_false]; rfl⟩
       · trivial
     · trivial
   · trivial
 · trivial
def emp (cl : Bool) (n : Nat) : Bool := decide (n < 2 ∨ cl = true ∧ n < 3)
def inF (a b c d p q r s : Nat) : Bool := !(fLt .f64 p a) && !(fGt .f64 r c) && !(fLt .f64 q b) && !(fGt .f64 s d)
def allB (p : Nat → Bool) : Nat → Bool
 | 0 => true
 | i + 1 => allB p i && p i
theorem allB_no {p : Nat → Bool} : ∀ {i m : Nat}, i < m → p i = false → allB p m = false
 | i, 0, h, _ => by omega
 | i, m + 1, h, hp => by
   show (allB p m && p m) = false
   by_cases e : i = m
   · subst e; rw [hp]; simp
   · rw [allB_no (by omega) hp]; rfl
theorem w1_pt {a b c d : Nat} (ha : W1 a) (hb : W1 b) (hc : W1 c) (hd : W1 d) (i : Int) : W1 (ptAt a b c d i).1 ∧ W1 (ptAt a b c d i).2 := by
 unfold ptAt
 repeat' split
 all_goals exact ⟨by assumption, by assumption⟩
section
variable (g : Nat → Nat) (n ns : Nat) (cl cw cv : Bool) (x y z w : Nat)
noncomputable def rPt (a b c d : Nat) (al : Bool) (i : Nat) : Bool := (rcp g n ns x y z w (ptAt a b c d i).1 (ptAt a b c d i).2 al).1
noncomputable def rSg (a b c d : Nat) (al : Bool) (i : Nat) : Bool := rcs g n ns cw cv x y z w (ptAt a b c d i).1 (ptAt a b c d i).2 (ptAt a b c d ((i : Int) + 1)).1 (ptAt a b c d ((i : Int) + 1)).2 al
noncomputable def sPs (g2 : Nat → Nat) (al : Bool) (i : Nat) : Bool := (rcp g n ns x y z w (g2 (2 * i)) (g2 (2 * i + 1)) al).1
noncomputable def sSs (g2 : Nat → Nat) (n2 : Nat) (al : Bool) (i : Nat) : Bool := rcs g n ns cw cv x y z w (g2 (2 * i)) (g2 (2 * i + 1)) (g2 (2 * nx n2 i)) (g2 (2 * nx n2 i + 1)) al
noncomputable def rcrR (a b c d : Nat) (al : Bool) : Bool :=
 !(emp cl n) && (inF x y z w a b c d && (if cv = true then allB (rPt g n ns x y z w a b c d al) 5 else allB (rSg g n ns cw cv x y z w a b c d al) 4))
noncomputable def rcrS (g2 : Nat → Nat) (n2 ns2 : Nat) (cl2 : Bool) (x2 y2 z2 w2 : Nat) (al : Bool) : Bool :=
 !(emp cl n) && (!(emp cl2 n2) && ((decide (16 ≤ n2) && rcrR g n ns cl cw cv x y z w x2 y2 z2 w2 al) || (inF x y z w x2 y2 z2 w2 && (if cv = true then allB (sPs g n ns x y z w g2 al) n2 else allB (sSs g n ns cw cv x y z w g2 n2 al) ns2))))
end
def HS1 (cl cw cv : Bool) (k : Int) (x y z w n : Nat) (g : Nat → Nat) : Heap := [(0, ⟨false, 150, serC cl cw cv k x y z w 1 n, 0⟩), (1, ⟨false, 100, .flts .f64 (2 * n) g, 0⟩)]
def HS2 (cl cw cv : Bool) (k : Int) (x y z w n : Nat) (g : Nat → Nat) : Heap := [(2, ⟨false, 150, serC cl cw cv k x y z w 3 n, 0⟩), (3, ⟨false, 100, .flts .f64 (2 * n) g, 0⟩)]
def rc6 (H : Heap) (o : SV) (al : Bool) (m : Nat) (P : Prop) : Fam := ⟨Nat, fun _ => ⟨63, [(0, .ifc 157 (.ptr 0 0)), (1, o), (2, .bool al)], H, m⟩, fun _ => P, fun _ => 0⟩
def rc11 (H : Heap) (o : SV) (al : Bool) (m : Nat) (t : Int) (k : Nat) (P : Nat → Prop) : Fam := ⟨Nat, fun i => ⟨63, [(0, .ifc 157 (.ptr 0 0)), (1, o), (2, .bool al), (7, .int .i64 t), (8, .int .i64 i)], H, m⟩, fun i => i ≤ k ∧ P i, fun i => k - i⟩
def rc17 (H : Heap) (o : SV) (al : Bool) (m : Nat) (t : Int) (k : Nat) (P : Nat → Prop) : Fam := ⟨Nat, fun i => ⟨63, [(0, .ifc 157 (.ptr 0 0)), (1, o), (2, .bool al), (9, .int .i64 t), (10, .int .i64 i)], H, m⟩, fun i => i ≤ k ∧ P i, fun i => k - i⟩
noncomputable def GrcR : Ctx := ⟨⟨tys, []⟩, [(163, conR sEmptyC), (192, pureCon rEmptyF), (196, pureCon rNumPF), (164, conR sRectSC), (198, pureCon rRectF), (191, pureCon rInF), (226, conR sConvC), (197, pureCon rPointAtF), (174, conR rcpSC), (203, pureCon rNumSF), (204, pureCon rSegAtF), (215, conR rcsSC)]⟩
theorem grcR : CtxOk Tryz.prog GrcR := ⟨⟨tysOk, FlatsOk.nil⟩, GamOk.cons sEmpty (GamOk.cons (.pure rEmpty) (GamOk.cons (.pure rNumP) (GamOk.cons sRectS (GamOk.cons (.pure rRect) (GamOk.cons (.pure rIn) (GamOk.cons sConv (GamOk.cons (.pure rPointAt) (GamOk.cons rcpS (GamOk.cons (.pure rNumS) (GamOk.cons (.pure rSegAt) (GamOk.cons rcsS GamOk.nil))))))))))), by kernel_rfl⟩
noncomputable def rcrSRC : List SV → RdM
 | [.ifc 157 (.ptr s 0), .ifc 102 (.agg [.flt .f64 a, .flt .f64 b, .flt .f64 c, .flt .f64 d]), v] => .read s fun o0 => (match serOf o0.c with
   | some (cl, cw, cv, k, x, y, z, w, p, n) => .read p fun o1 => (match fltsFrom .f64 o1.c with
   | some (m1, g) => (match v.toB with
   | some al => .ret ⟨[.ifc 157 (.ptr 0 0), .ifc 102 (.agg [.flt .f64 a, .flt .f64 b, .flt .f64 c, .flt .f64 d]), .bool al], [(0, ⟨false, 150, serC cl cw cv k x y z w 1 n, 0⟩), (1, ⟨false, 100, .flts .f64 m1 g, 0⟩)], .bool (rcrR g n (nsg cl n (wz g)) cl cw cv x y z w a b c d al), [], [], some (m1 = 2 * n ∧ n ≤ 1000000 ∧ SmF g (2 * n) ∧ W1 a ∧ W1 b ∧ W1 c ∧ W1 d)⟩
   | none => .fail)
   | none => .fail)
   | none => .fail)
 | _ => .fail
theorem vc_rcrSR (cl cw cv : Bool) (k : Int) (x y z w : Nat) (_ : Nm) (n : Nat) (a b c d : Nat) (al : Bool)  (g : Nat → Nat) : runA GrcR 2 [(11, rc11 (HS1 cl cw cv k x y z w n g) (.ifc 102 (.agg (qC a b c d))) al 2 5 5 (fun i => (emp cl n = false ∧ inF x y z w a b c d = true ∧ cv = true) ∧ allB (rPt g n (nsg cl n (wz g)) x y z w a b c d al) i = true)), (17, rc17 (HS1 cl cw cv k x y z w n g) (.ifc 102 (.agg (qC a b c d))) al 2 4 4 (fun i => (emp cl n = false ∧ inF x y z w a b c d = true ∧ cv = false) ∧ allB (rSg g n (nsg cl n (wz g)) cw cv x y z w a b c d al) i = true))] [(6, rc6 (HS1 cl cw cv k x y z w n g) (.ifc 102 (.agg (qC a b c d))) al 2 (emp cl n = false))] (codeOf Tryz.f213) (init Tryz.f213.ntmps [.ifc 157 (.ptr 0 0), .ifc 102 (.agg [.flt .f64 a, .flt .f64 b, .flt .f64 c, .flt .f64 d]), .bool al] [(0, ⟨false, 150, serC cl cw cv k x y z w 1 n, 0⟩), (1, ⟨false, 100, .flts .f64 (2 * n) g, 0⟩)] 2) (endK GrcR.E.T Tryz.f213.results.toList fun S v => postP 2 ⟨[.ifc 157 (.ptr 0 0), .ifc 102 (.agg [.flt .f64 a, .flt .f64 b, .flt .f64 c, .flt .f64 d]), .bool al], [(0, ⟨false, 150, serC cl cw cv k x y z w 1 n, 0⟩), (1, ⟨false, 100, .flts .f64 (2 * n) g, 0⟩)], .bool (rcrR g n (nsg cl n (wz g)) cl cw cv x y z w a b c d al), [], [], some (2 * n = 2 * n ∧ n ≤ 1000000 ∧ SmF g (2 * n) ∧ W1 a ∧ W1 b ∧ W1 c ∧ W1 d)⟩ S v) = (
(2 * n = 2 * n ∧ True) ∧ (decide (n < 2 ∨ cl = true ∧ n < 3) = true → rcrR g n (nsg cl n (wz g)) cl cw cv x y z w a b c d al = false ∧ True) ∧ (decide (n < 2 ∨ cl = true ∧ n < 3) = false → ((false = true → False) ∧ (false = false → ∃ (_ : Nat), emp cl n = false ∧ ((True ∧ 0 = 0) ∧ (a = a ∧ b = b ∧ c = c ∧ d = d ∧ True) ∧ al = al ∧ True) ∧ True ∧ (cl = cl ∧ cw
= cw ∧ cv = cv ∧ k = k ∧ True ∧ x = x ∧ y = y ∧ z = z ∧ w = w ∧ (True ∧ n = n) ∧ True) ∧ True ∧ (2 * n ≤ 2 * n ∧ ∀ (i : Nat), i < 2 * n → g i = g i) ∧ True)) ∧ ∀ (_ : Nat), emp cl n = false → (2 * n =
2 * n ∧ True) ∧ ((!(!fLt .f64 a x && !fGt .f64 c z && !fLt .f64 b y && !fGt .f64 d w)) = true → rcrR g n (nsg cl n (wz g)) cl cw cv x y z w a b c d al = false ∧
 True) ∧ ((!(!fLt .f64 a x && !fGt .f64 c z && !fLt .f64 b y && !fGt .f64 d w)) = false → (2 * n = 2 * n ∧ True) ∧ (cv = true → (∃ (i : Nat), (i ≤ 5 ∧ (emp cl n = false ∧
 inF x y z w a b c d = true ∧ cv = true) ∧ allB (rPt g n (nsg cl n (wz g)) x y z w a b c d al) i = true) ∧ ((True ∧ 0 = 0) ∧ (a = a ∧ b = b ∧ c =
 c ∧ d = d ∧ True) ∧ al = al ∧ (5 : Int) = 5 ∧ 0 = (↑i : Int) ∧ True) ∧ True ∧ (cl = cl ∧ cw = cw ∧ cv = cv ∧ k = k ∧ True ∧ x = x ∧ y = y ∧ z = z ∧ w = w ∧ (True ∧ n = n) ∧ True) ∧ True ∧ (2 * n ≤ 2 * n ∧ ∀ (i : Nat),
 i < 2 * n → g i = g i) ∧ True) ∧ ∀ (i : Nat), i ≤ 5 ∧ (emp cl n = false ∧ inF x y z w a b c d = true ∧ cv = true) ∧ allB (rPt g n (nsg cl n
(wz g)) x y z w a b c d al) i = true → (decide ((↑i : Int) < 5) = true → (0 ≤ (↑i : Int) ∧ (↑i : Int) ≤ 4) ∧ (2 * n = 2 * n ∧ n ≤ 1000000 ∧ SmF g (2 * n) ∧
 W1 ((ptAt a b c d (↑i : Int)).1) ∧ W1 ((ptAt a b c d (↑i : Int)).2)) ∧ ((!(rcp g n (nsg cl n (wz g))
 x y z w ((ptAt a b c d (↑i : Int)).1) ((ptAt a b c d (↑i : Int)).2) al).1) = true → rcrR g n (nsg cl n (wz g)) cl cw cv x y z w a b c d al = false ∧
 True) ∧ ((!(rcp g n (nsg cl n (wz g)) x y z w ((ptAt a b c d (↑i : Int)).1) ((ptAt a b c d (↑i : Int)).2) al).1) = false → ∃ (i' : Nat),
(i' ≤ 5 ∧ (emp cl n = false ∧ inF x y z w a b c d = true ∧ cv = true) ∧ allB (rPt g n (nsg cl n (wz g)) x y z w a b c d al) i' = true)
∧ 5 - i' < 5 - i ∧ ((True ∧ 0 = 0) ∧ (a = a ∧ b = b ∧ c = c ∧ d = d ∧ True) ∧ al = al ∧ (5 : Int) = 5 ∧ Go.IntKind.wrap .i64 ((↑i : Int) + 1) = (↑i' : Int) ∧ True) ∧ True ∧ (cl = cl ∧ cw = cw ∧ cv = cv
∧ k = k ∧ True ∧ x = x ∧ y = y ∧ z = z ∧ w = w ∧ (True ∧ n = n) ∧ True) ∧ True ∧ (2 * n ≤ 2 * n ∧ ∀ (i : Nat), i < 2 * n → g i = g i) ∧ True)) ∧ (decide ((↑i : Int) < 5) = false → rcrR g n
(nsg cl n (wz g)) cl cw cv x y z w a b c d al = true ∧ True)) ∧ (cv = false → (∃ (i : Nat), (i ≤ 4 ∧ (emp cl n = false ∧ inF x y z w a b c d = true ∧ cv = false) ∧
 allB (rSg g n (nsg cl n (wz g)) cw cv x y z w a b c d al) i = true) ∧ ((True ∧ 0 = 0) ∧ (a = a ∧ b = b ∧ c = c ∧ d = d ∧ True) ∧ al = al ∧ (4 : Int) = 4 ∧
0 = (↑i : Int) ∧ True) ∧ True ∧ (cl = cl ∧ cw = cw ∧ cv = cv ∧ k = k ∧ True ∧ x = x ∧ y = y ∧ z = z ∧ w = w ∧ (True ∧ n = n) ∧ True) ∧ True ∧ (2 * n ≤ 2 * n ∧ ∀ (i : Nat), i < 2 * n → g i = g i) ∧ True) ∧ ∀ (i : Nat),
 i ≤ 4 ∧ (emp cl n = false ∧ inF x y z w a b c d = true ∧ cv = false) ∧ allB (rSg g n (nsg cl n (wz g)) cw cv x y z w a b c d al) i =
 true → (decide ((↑i : Int) < 4) = true → (0 ≤ (↑i : Int) ∧ (↑i : Int) ≤ 3) ∧ (2 * n = 2 * n ∧ n ≤ 1000000 ∧ SmF g (2 * n) ∧ W1 (Prod.fst
(ptAt a b c d (↑i : Int))) ∧ W1 ((ptAt a b c d (↑i : Int)).2) ∧ W1 ((ptAt a b c d ((↑i : Int) + 1)).1) ∧ W1 (Prod.snd
(ptAt a b c d ((↑i : Int) + 1)))) ∧ ((!rcs g n (nsg cl n (wz g)) cw cv x y z w ((ptAt a b c d (↑i : Int)).1) ((ptAt a
 b c d (↑i : Int)).2) ((ptAt a b c d ((↑i : Int) + 1)).1) ((ptAt a b c d ((↑i : Int) + 1)).2) al) = true → rcrR g n (nsg cl n (wz g))
 cl cw cv x y z w a b c d al = false ∧ True) ∧ ((!rcs g n (nsg cl n (wz g)) cw cv x y z w ((ptAt a b c d (↑i : Int)).1) ((ptAt a b c d (↑i :
 Int)).2) ((ptAt a b c d ((↑i : Int) + 1)).1) ((ptAt a b c d ((↑i : Int) + 1)).2) al) = false → ∃ (i' : Nat), (i' ≤ 4 ∧ (emp cl n = false ∧ inF
 x y z w a b c d = true ∧ cv = false) ∧ allB (rSg g n (nsg cl n (wz g)) cw cv x y z w a b c d al) i' = true) ∧ 4 - i' < 4 - i ∧ ((True ∧ 0 = 0) ∧
(a = a ∧ b = b ∧ c = c ∧ d = d ∧ True) ∧ al = al ∧ (4 : Int) = 4 ∧ Go.IntKind.wrap .i64 ((↑i : Int) + 1) = (↑i' : Int) ∧ True) ∧ True ∧ (cl = cl ∧ cw = cw ∧ cv = cv ∧ k = k ∧ True ∧ x = x ∧ y = y ∧ z = z ∧ w = w ∧ (True ∧ n = n) ∧
 True) ∧ True ∧ (2 * n ≤ 2 * n ∧ ∀ (i : Nat), i < 2 * n → g i = g i) ∧ True)) ∧ (decide ((↑i : Int) < 4) = false → rcrR g n (nsg cl n (wz g)) cl cw cv x y z w a b c
 d al = true ∧ True))))) := by kernel_rfl
theorem rcrSR : ConOk Tryz.prog 213 (conR rcrSRC) := by
 refine con_of_vc grcR Tryz.func213 rfl (by kernel_rfl) fun args => ?_
 unfold rcrSRC
 split
 · rename_i s a b c d v
   intro o0
   show RdM.All _ (match serOf o0.c with | some (cl, cw, cv, k, x, y, z, w, p, n) => _ | none => _) _
   split
   · rename_i cl cw cv k x y z w p n hm0
     intro o1
     show RdM.All _ (match fltsFrom .f64 o1.c with | some (m, g) => _ | none => _) _
     split
     · rename_i m1 g hm1
       show RdM.All _ (match v.toB with | some b => _ | none => _) _
       split
       · rename_i al hal
         intro ho
         replace ho : m1 = 2 * n ∧ n ≤ 1000000 ∧ SmF g (2 * n) ∧ W1 a ∧ W1 b ∧ W1 c ∧ W1 d := ho
         obtain ⟨hsz1, ho⟩ := ho
         subst hsz1
         refine ⟨?_, _, _, (vc_rcrSR cl cw cv k x y z w p n a b c d al g).mpr ?_⟩
         · refine okFlag_mk rfl ⟨?_, ⟨trivial, serOf_spec hm0 (by simp [sgSig, fsts, nth, sameN_self]), ⟨trivial, (contR_flts hm1).1, trivial⟩⟩⟩
           simp [eqvRL, eqvR, fkEq_self, sgSig, fsts, nth, sameN_self, toB_eqvR hal]
         · obtain ⟨hn, hg, ha, hb, hc, hd⟩ := ho
           have hpt := fun i : Int => w1_pt ha hb hc hd i
           have e1 : decide (n < 2 ∨ cl = true ∧ n < 3) = emp cl n := rfl
           have e2 : (!fLt .f64 a x && !fGt .f64 c z && !fLt .f64 b y && !fGt .f64 d w) = inF x y z w a b c d := rfl
           generalize nsg cl n (wz g) = N
           simp only [true_and, and_true, eq_self, Nat.le_refl, implies_true, true_implies, false_implies, reduceCtorEq, e1, e2]
           have v0 : emp cl n = true → rcrR g n N cl cw cv x y z w a b c d al = false := fun q => by unfold rcrR; rw [q]; rfl
           refine ⟨v0, fun q => ⟨⟨0, q⟩, fun _ h6 => ⟨fun q2 => ?_, fun q2 => ⟨fun hv => ⟨⟨0, ⟨by omega, ⟨h6, by simpa using q2, hv⟩, rfl⟩, rfl⟩, fun i hi => ⟨fun h => ?_, fun h => ?_⟩⟩, fun hv => ⟨⟨0, ⟨by omega, ⟨h6, by simpa using q2, hv⟩, rfl⟩, rfl⟩, fun i hi => ⟨fun h => ?_, fun h => ?_⟩⟩⟩⟩⟩⟩
           · unfold rcrR
             rw [show inF x y z w a b c d = false by simpa using q2]
             simp
           · have h := of_decide_eq_true h
             have hw : IntKind.i64.wrap ((i : Int) + 1) = ((i + 1 : Nat) : Int) := by rw [wrap64 (by omega) (by omega)]; omega
             rw [hw]
             refine ⟨⟨by omega, by omega⟩, ⟨hn, hg, (hpt i).1, (hpt i).2⟩, fun q3 => ?_, fun q3 => ⟨i + 1, ⟨by omega, hi.2.1, ?_⟩, by omega, rfl⟩⟩
             · have : allB (rPt g n N x y z w a b c d al) 5 = false := allB_no (i := i) (by omega) (show (rcp g n N x y z w (ptAt a b c d i).1 (ptAt a b c d i).2 al).1 = false by simpa using q3)
               unfold rcrR
               rw [hv, if_pos rfl, this]
               simp
             · show (allB (rPt g n N x y z w a b c d al) i && rPt g n N x y z w a b c d al i) = true
               rw [hi.2.2]
               show (true && (rcp g n N x y z w (ptAt a b c d i).1 (ptAt a b c d i).2 al).1) = true
               simpa using q3
           · have h := of_decide_eq_false h
             have : i = 5 := by omega
             subst this
             unfold rcrR
             rw [h6, hi.2.1.2.1, hv, if_pos rfl, hi.2.2]
             rfl
           · have h := of_decide_eq_true h
             have hw : IntKind.i64.wrap ((i : Int) + 1) = ((i + 1 : Nat) : Int) := by rw [wrap64 (by omega) (by omega)]; omega
             rw [hw]
             refine ⟨⟨by omega, by omega⟩, ⟨hn, hg, (hpt i).1, (hpt i).2, (hpt _).1, (hpt _).2⟩, fun q3 => ?_, fun q3 => ⟨i + 1, ⟨by omega, hi.2.1, ?_⟩, by omega, rfl⟩⟩
             · have : allB (rSg g n N cw cv x y z w a b c d al) 4 = false := allB_no (i := i) (by omega) (show rcs g n N cw cv x y z w (ptAt a b c d i).1 (ptAt a b c d i).2 (ptAt a b c d ((i : Int) + 1)).1 (ptAt a b c d ((i : Int) + 1)).2 al = false by simpa using q3)
               unfold rcrR
               rw [if_neg (by simp [hv]), this]
               simp
             · show (allB (rSg g n N cw cv x y z w a b c d al) i && rSg g n N cw cv x y z w a b c d al i) = true
               rw [hi.2.2]
               show (true && rcs g n N cw cv x y z w (ptAt a b c d i).1 (ptAt a b c d i).2 (ptAt a b c d ((i : Int) + 1)).1 (ptAt a b c d ((i : Int) + 1)).2 al) = true
               simpa using q3
           · have h := of_decide_eq_false h
             have : i = 4 := by omega
             subst this
             unfold rcrR
             rw [h6, hi.2.1.2.1, if_neg (by simp [hv]), hi.2.2]
             rfl
       · trivial
     · trivial
   · trivial
 · trivial
noncomputable def GrcS : Ctx := ⟨⟨tys, []⟩, [(163, conR sEmptyC), (205, conR sNumPC), (164, conR sRectSC), (191, pureCon rInF), (226, conR sConvC), (206, conR sPtC), (174, conR rcpSC), (111, conR sNumSC), (112, conR sSegC), (215, conR rcsSC), (213, conR rcrSRC)]⟩
theorem grcS : CtxOk Tryz.prog GrcS := ⟨⟨tysOk, FlatsOk.nil⟩, GamOk.cons sEmpty (GamOk.cons sNumP (GamOk.cons sRectS (GamOk.cons (.pure rIn) (GamOk.cons sConv (GamOk.cons sPt (GamOk.cons rcpS (GamOk.cons sNumS (GamOk.cons sSeg (GamOk.cons rcsS (GamOk.cons rcrSR GamOk.nil)))))))))), by kernel_rfl⟩
noncomputable def rcrSSC : List SV → RdM
 | [.ifc 157 (.ptr s 0), .ifc 157 (.ptr s2 0), v] => .read s fun o0 => (match serOf o0.c with
   | some (cl, cw, cv, k, x, y, z, w, p, n) => .read p fun o1 => (match fltsFrom .f64 o1.c with
   | some (m1, g) => .read s2 fun o2 => (match serOf o2.c with
   | some (cl2, cw2, cv2, k2, x2, y2, z2, w2, q2, n2) => .read q2 fun o3 => (match fltsFrom .f64 o3.c with
   | some (m3, g2) => (match v.toB with
   | some al => .ret ⟨[.ifc 157 (.ptr 0 0), .ifc 157 (.ptr 2 0), .bool al], [(0, ⟨false, 150, serC cl cw cv k x y z w 1 n, 0⟩), (1, ⟨false, 100, .flts .f64 m1 g, 0⟩), (2, ⟨false, 150, serC cl2 cw2 cv2 k2 x2 y2 z2 w2 3 n2, 0⟩), (3, ⟨false, 100, .flts .f64 m3 g2, 0⟩)], .bool (rcrS g n (nsg cl n (wz g)) cl cw cv x y z w g2 n2 (nsg cl2 n2 (wz g2)) cl2 x2 y2 z2 w2 al), [], [], some (m1 = 2 * n ∧ m3 = 2 * n2 ∧ (n ≤ 1000000 ∧ SmF g (2 * n)) ∧ (n2 ≤ 1000000 ∧ SmF g2 (2 * n2)) ∧ W1 x2 ∧ W1 y2 ∧ W1 z2 ∧ W1 w2)⟩
   | none => .fail)
   | none => .fail)
   | none => .fail)
   | none => .fail)
   | none => .fail)
 | _ => .fail
theorem vc_rcrSS (cl cw cv : Bool) (k : Int) (x y z w : Nat) (_ : Nm) (n : Nat) (cl2 cw2 cv2 : Bool) (k2 : Int) (x2 y2 z2 w2 : Nat) (_ : Nm) (n2 : Nat) (al : Bool)  (g : Nat → Nat) (g2 : Nat → Nat) : runA GrcS 4 [(11, rc11 (HS1 cl cw cv k x y z w n g ++ HS2 cl2 cw2 cv2 k2 x2 y2 z2 w2 n2 g2) (.ifc 157 (.ptr 2 0)) al 4 n2 n2 (fun i => ((emp cl n = false ∧ emp cl2 n2 = false ∧ (decide (16 ≤ n2) && rcrR g n (nsg cl n (wz g)) cl cw cv x y z w x2 y2 z2 w2 al) = false) ∧ inF x y z w x2 y2 z2 w2 = true ∧ cv = true) ∧ allB (sPs g n (nsg cl n (wz g)) x y z w g2 al) i = true)), (17, rc17 (HS1 cl cw cv k x y z w n g ++ HS2 cl2 cw2 cv2 k2 x2 y2 z2 w2 n2 g2) (.ifc 157 (.ptr 2 0)) al 4 (nsg cl2 n2 (wz g2)) (nsg cl2 n2 (wz g2)) (fun i => ((emp cl n = false ∧ emp cl2 n2 = false ∧ (decide (16 ≤ n2) && rcrR g n (nsg cl n (wz g)) cl cw cv x y z w x2 y2 z2 w2 al) = false) ∧ inF x y z w x2 y2 z2 w2 = true ∧ cv = false) ∧ allB (sSs g n (nsg cl n (wz g)) cw cv x y z w g2 n2 al) i = true))] [(6, rc6 (HS1 cl cw cv k x y z w n g ++ HS2 cl2 cw2 cv2 k2 x2 y2 z2 w2 n2 g2) (.ifc 157 (.ptr 2 0)) al 4 (emp cl n = false ∧ emp cl2 n2 = false ∧ (decide (16 ≤ n2) && rcrR g n (nsg cl n (wz g)) cl cw cv x y z w x2 y2 z2 w2 al) = false))] (codeOf Tryz.f213) (init Tryz.f213.ntmps [.ifc 157 (.ptr 0 0), .ifc 157 (.ptr 2 0), .bool al] [(0, ⟨false, 150, serC cl cw cv k x y z w 1 n, 0⟩), (1, ⟨false, 100, .flts .f64 (2 * n) g, 0⟩), (2, ⟨false, 150, serC cl2 cw2 cv2 k2 x2 y2 z2 w2 3 n2, 0⟩), (3, ⟨false, 100, .flts .f64 (2 * n2) g2, 0⟩)] 4) (endK GrcS.E.T Tryz.f213.results.toList fun S v => postP 4 ⟨[.ifc 157 (.ptr 0 0), .ifc 157 (.ptr 2 0), .bool al], [(0, ⟨false, 150, serC cl cw cv k x y z w 1 n, 0⟩), (1, ⟨false, 100, .flts .f64 (2 * n) g, 0⟩), (2, ⟨false, 150, serC cl2 cw2 cv2 k2 x2 y2 z2 w2 3 n2, 0⟩), (3, ⟨false, 100, .flts .f64 (2 * n2) g2, 0⟩)], .bool (rcrS g n (nsg cl n (wz g)) cl cw cv x y z w g2 n2 (nsg cl2 n2 (wz g2)) cl2 x2 y2 z2 w2 al), [], [], some (2 * n = 2 * n ∧ 2 * n2 = 2 * n2 ∧ (n ≤ 1000000 ∧ SmF g (2 * n)) ∧ (n2 ≤ 1000000 ∧ SmF g2 (2 * n2)) ∧ W1 x2 ∧ W1 y2 ∧ W1 z2 ∧ W1 w2)⟩ S v) = (
(2 * n = 2 * n ∧ True) ∧ (decide (n < 2 ∨ cl = true ∧ n < 3) = true → rcrS g n (nsg cl n (wz g)) cl cw cv x y z w g2 n2 (nsg cl2 n2
(wz g2)) cl2 x2 y2 z2 w2 al = false ∧ True) ∧ (decide (n < 2 ∨ cl = true ∧ n < 3) = false → (2 * n2 = 2 * n2 ∧ True) ∧ (decide (n2 < 2 ∨ cl2 = true ∧ n2 < 3) = true →
 rcrS g n (nsg cl n (wz g)) cl cw cv x y z w g2 n2 (nsg cl2 n2 (wz g2)) cl2 x2 y2 z2 w2 al = false ∧ True) ∧ (decide (n2 < 2 ∨ cl2 = true ∧ n2 < 3) = false → ((2 * n2 = 2 * n2 ∧ True) ∧ (decide (16 ≤ (↑n2 : Int)) = true → (2 * n2 = 2 * n2 ∧ True) ∧ (2 * n = 2 * n ∧ n ≤ 1000000 ∧ SmF g (2 * n) ∧
 W1 x2 ∧ W1 y2 ∧ W1 z2 ∧ W1 w2) ∧ (rcrR g n (nsg cl n (wz g)) cl cw cv x y z w x2 y2 z2 w2 al = true → rcrS
 g n (nsg cl n (wz g)) cl cw cv x y z w g2 n2 (nsg cl2 n2 (wz g2)) cl2 x2 y2 z2 w2 al = true ∧ True) ∧ (rcrR g n (nsg cl n
(wz g)) cl cw cv x y z w x2 y2 z2 w2 al = false → ∃ (_ : Nat), (emp cl n = false ∧ emp cl2 n2 = false ∧ (decide (16 ≤ n2) && rcrR g n (nsg cl n
(wz g)) cl cw cv x y z w x2 y2 z2 w2 al) = false) ∧ ((True ∧ 0 = 0) ∧ (True ∧ 0 = 0) ∧ al = al ∧ True) ∧ True ∧ (cl = cl ∧ cw = cw ∧ cv = cv ∧ k = k ∧ True ∧ x = x ∧ y = y ∧ z = z ∧ w = w ∧ (True ∧ n
= n) ∧ True) ∧ True ∧ (2 * n ≤ 2 * n ∧ ∀ (i : Nat), i < 2 * n → g i = g i) ∧ True ∧ (cl2 = cl2 ∧ cw2 = cw2 ∧ cv2 = cv2 ∧ k2 = k2 ∧ True ∧ x2 = x2 ∧ y2 = y2 ∧ z2 = z2 ∧ w2 = w2 ∧ (True ∧ n2 = n2) ∧ True) ∧ True ∧ (2 *
 n2 ≤ 2 * n2 ∧ ∀ (i : Nat), i < 2 * n2 → g2 i = g2 i) ∧ True)) ∧ (decide (16 ≤ (↑n2 : Int)) = false → ∃ (_ : Nat), (emp cl n = false ∧ emp cl2 n2 = false ∧ (decide (16 ≤ n2) &&
 rcrR g n (nsg cl n (wz g)) cl cw cv x y z w x2 y2 z2 w2 al) = false) ∧ ((True ∧ 0 = 0) ∧ (True ∧ 0 = 0) ∧ al = al ∧ True) ∧ True ∧ (cl = cl ∧ cw = cw ∧ cv = cv ∧ k
= k ∧ True ∧ x = x ∧ y = y ∧ z = z ∧ w = w ∧ (True ∧ n = n) ∧ True) ∧ True ∧ (2 * n ≤ 2 * n ∧ ∀ (i : Nat), i < 2 * n → g i = g i) ∧ True ∧ (cl2 = cl2 ∧ cw2 = cw2 ∧ cv2 = cv2 ∧ k2 = k2 ∧ True ∧ x2 = x2 ∧ y2 = y2 ∧ z2 = z2 ∧ w2
= w2 ∧ (True ∧ n2 = n2) ∧ True) ∧ True ∧ (2 * n2 ≤ 2 * n2 ∧ ∀ (i : Nat), i < 2 * n2 → g2 i = g2 i) ∧ True)) ∧ ∀ (_ : Nat), emp cl n = false ∧ emp cl2 n2 = false ∧ (decide (16 ≤ n2)
&& rcrR g n (nsg cl n (wz g)) cl cw cv x y z w x2 y2 z2 w2 al) = false → (2 * n = 2 * n ∧ True) ∧ (2 * n2 = 2 * n2 ∧ True) ∧ ((!(!fLt .f64 x2 x && !fGt
.f64 z2 z && !fLt .f64 y2 y && !fGt .f64 w2 w)) = true → rcrS g n (nsg cl n (wz g)) cl cw cv x y z w g2 n2 (nsg cl2 n2 (wz g2)) cl2 x2 y2 z2 w2 al =
 false ∧ True) ∧ ((!(!fLt .f64 x2 x && !fGt .f64 z2 z && !fLt .f64 y2 y && !fGt .f64 w2 w)) = false → (2 * n = 2 * n ∧ True) ∧ (cv = true → (2 * n2 = 2 * n2 ∧ True) ∧ (∃ (i : Nat), (i ≤ n2 ∧
((emp cl n = false ∧ emp cl2 n2 = false ∧ (decide (16 ≤ n2) && rcrR g n (nsg cl n (wz g)) cl cw cv x y z w x2 y2 z2 w2 al) = false) ∧
 inF x y z w x2 y2 z2 w2 = true ∧ cv = true) ∧ allB (sPs g n (nsg cl n (wz g)) x y z w g2 al) i = true) ∧ ((True ∧ 0 = 0) ∧ (True ∧ 0 =
0) ∧ al = al ∧ (↑n2 : Int) = (↑n2 : Int) ∧ 0 = (↑i : Int) ∧ True) ∧ True ∧ (cl = cl ∧ cw = cw ∧ cv = cv ∧ k = k ∧ True ∧ x = x ∧ y = y ∧ z = z ∧ w = w ∧ (True ∧ n = n) ∧ True) ∧ True ∧ (2 * n ≤ 2 * n ∧ ∀ (i : Nat), i <
2 * n → g i = g i) ∧ True ∧ (cl2 = cl2 ∧ cw2 = cw2 ∧ cv2 = cv2 ∧ k2 = k2 ∧ True ∧ x2 = x2 ∧ y2 = y2 ∧ z2 = z2 ∧ w2 = w2 ∧ (True ∧ n2 = n2) ∧ True) ∧ True ∧ (2 * n2 ≤ 2 * n2 ∧ ∀ (i : Nat), i < 2 * n2 → g2 i = g2 i) ∧
 True) ∧ ∀ (i : Nat), i ≤ n2 ∧ ((emp cl n = false ∧ emp cl2 n2 = false ∧ (decide (16 ≤ n2) && rcrR g n (nsg cl n (wz g)) cl cw cv x y z w x2 y2 z2 w2 al)
= false) ∧ inF x y z w x2 y2 z2 w2 = true ∧ cv = true) ∧ allB (sPs g n (nsg cl n (wz g)) x y z w g2 al) i = true → (decide ((↑i : Int) < (↑n2 : Int)) = true →
(2 * n2 = 2 * n2 ∧ 0 ≤ (↑i : Int) ∧ (↑i : Int) < (↑n2 : Int)) ∧ (2 * n = 2 * n ∧ n ≤ 1000000 ∧ SmF g (2 * n) ∧ W1 (g2 (2 * Int.toNat (↑i : Int))) ∧
 W1 (g2 (2 * Int.toNat (↑i : Int) + 1))) ∧ ((!(rcp g n (nsg cl n (wz g)) x y z w (g2 (2 * Int.toNat (↑i : Int))) (g2 (2 * Int.toNat (↑i :
 Int) + 1)) al).1) = true → rcrS g n (nsg cl n (wz g)) cl cw cv x y z w g2 n2 (nsg cl2 n2 (wz g2)) cl2 x2 y2 z2 w2 al = false ∧ True) ∧ ((!Prod.fst
(rcp g n (nsg cl n (wz g)) x y z w (g2 (2 * Int.toNat (↑i : Int))) (g2 (2 * Int.toNat (↑i : Int) + 1)) al)) = false → ∃ (i' : Nat), (i' ≤ n2 ∧ ((emp cl n
= false ∧ emp cl2 n2 = false ∧ (decide (16 ≤ n2) && rcrR g n (nsg cl n (wz g)) cl cw cv x y z w x2 y2 z2 w2 al) = false) ∧ inF x y z w x2 y2 z2 w2 =
 true ∧ cv = true) ∧ allB (sPs g n (nsg cl n (wz g)) x y z w g2 al) i' = true) ∧ n2 - i' < n2 - i ∧ ((True ∧ 0 = 0) ∧ (True ∧ 0 = 0) ∧ al = al ∧
(↑n2 : Int) = (↑n2 : Int) ∧ Go.IntKind.wrap .i64 ((↑i : Int) + 1) = (↑i' : Int) ∧ True) ∧ True ∧ (cl = cl ∧ cw = cw ∧ cv = cv ∧ k = k ∧ True ∧ x = x ∧ y = y ∧ z = z ∧ w = w ∧ (True ∧ n = n) ∧ True) ∧ True ∧ (2 * n ≤ 2 * n ∧ ∀
(i : Nat), i < 2 * n → g i = g i) ∧ True ∧ (cl2 = cl2 ∧ cw2 = cw2 ∧ cv2 = cv2 ∧ k2 = k2 ∧ True ∧ x2 = x2 ∧ y2 = y2 ∧ z2 = z2 ∧ w2 = w2 ∧ (True ∧ n2 = n2) ∧ True) ∧ True ∧ (2 * n2 ≤ 2 * n2 ∧ ∀ (i : Nat), i < 2 * n2 → g2
 i = g2 i) ∧ True)) ∧ (decide ((↑i : Int) < (↑n2 : Int)) = false → rcrS g n (nsg cl n (wz g)) cl cw cv x y z w g2 n2 (nsg cl2 n2 (wz g2)) cl2 x2 y2 z2 w2 al =
 true ∧ True)) ∧ (cv = false → (2 * n2 = 2 * n2 ∧ n2 ≤ 1000000 ∧ SmF g2 (2 * n2)) ∧ (∃ (i : Nat), (i ≤ nsg cl2 n2 (wz g2) ∧ ((emp cl n = false ∧
 emp cl2 n2 = false ∧ (decide (16 ≤ n2) && rcrR g n (nsg cl n (wz g)) cl cw cv x y z w x2 y2 z2 w2 al) = false) ∧ inF x y z w x2 y2 z2 w2 = true ∧ cv =
 false) ∧ allB (sSs g n (nsg cl n (wz g)) cw cv x y z w g2 n2 al) i = true) ∧ ((True ∧ 0 = 0) ∧ (True ∧ 0 = 0) ∧ al = al ∧ (↑(nsg
 cl2 n2 (wz g2)) : Int) = (↑(nsg cl2 n2 (wz g2)) : Int) ∧ 0 = (↑i : Int) ∧ True) ∧ True ∧ (cl = cl ∧ cw = cw ∧ cv = cv ∧ k = k ∧ True ∧ x = x ∧ y = y ∧ z = z ∧ w = w ∧ (True ∧ n = n) ∧
 True) ∧ True ∧ (2 * n ≤ 2 * n ∧ ∀ (i : Nat), i < 2 * n → g i = g i) ∧ True ∧ (cl2 = cl2 ∧ cw2 = cw2 ∧ cv2 = cv2 ∧ k2 = k2 ∧ True ∧ x2 = x2 ∧ y2 = y2 ∧ z2 = z2 ∧ w2 = w2 ∧ (True ∧ n2 = n2) ∧ True) ∧ True ∧ (2 * n2 ≤ 2 * n2 ∧ ∀ (i : Nat), i < 2 * n2 → g2 i = g2 i) ∧ True) ∧ ∀ (i : Nat), i ≤ nsg cl2 n2 (wz g2) ∧ ((emp cl n = false ∧ emp cl2 n2 = false ∧ (decide (16 ≤ n2)
&& rcrR g n (nsg cl n (wz g)) cl cw cv x y z w x2 y2 z2 w2 al) = false) ∧ inF x y z w x2 y2 z2 w2 = true ∧ cv = false) ∧ allB (sSs g n
(nsg cl n (wz g)) cw cv x y z w g2 n2 al) i = true → (decide ((↑i : Int) < (↑(nsg cl2 n2 (wz g2)) : Int)) = true → (2 * n2 = 2 * n2 ∧ 0 ≤ (↑i : Int) ∧ (↑i
: Int) < (↑n2 : Int) ∧ n2 ≤ 1000000) ∧ (2 * n = 2 * n ∧ n ≤ 1000000 ∧ SmF g (2 * n) ∧ W1 (g2 (2 * Int.toNat (↑i : Int))) ∧ W1 (g2 (2 *
 Int.toNat (↑i : Int) + 1)) ∧ W1 (g2 (2 * nx n2 (Int.toNat (↑i : Int)))) ∧ W1 (g2 (2 * nx n2 (Int.toNat (↑i : Int)) + 1))) ∧
((!rcs g n (nsg cl n (wz g)) cw cv x y z w (g2 (2 * Int.toNat (↑i : Int))) (g2 (2 * Int.toNat (↑i : Int) + 1)) (g2 (2 * nx n2 (Int.toNat (↑i :
 Int)))) (g2 (2 * nx n2 (Int.toNat (↑i : Int)) + 1)) al) = true → rcrS g n (nsg cl n (wz g)) cl cw cv x y z w g2 n2 (nsg cl2 n2
(wz g2)) cl2 x2 y2 z2 w2 al = false ∧ True) ∧ ((!rcs g n (nsg cl n (wz g)) cw cv x y z w (g2 (2 * Int.toNat (↑i : Int))) (g2 (2 * Int.toNat (↑i : Int) + 1)) (g2 (2 * nx n2 (Int.toNat (↑i : Int)))) (g2 (2 * nx n2 (Int.toNat (↑i : Int)) + 1)) al) = false → ∃ (i' : Nat), (i' ≤ nsg cl2 n2 (wz g2) ∧
((emp cl n = false ∧ emp cl2 n2 = false ∧ (decide (16 ≤ n2) && rcrR g n (nsg cl n (wz g)) cl cw cv x y z w x2 y2 z2 w2 al) = false) ∧
 inF x y z w x2 y2 z2 w2 = true ∧ cv = false) ∧ allB (sSs g n (nsg cl n (wz g)) cw cv x y z w g2 n2 al) i' = true) ∧ nsg cl2 n2
(wz g2) - i' < nsg cl2 n2 (wz g2) - i ∧ ((True ∧ 0 = 0) ∧ (True ∧ 0 = 0) ∧ al = al ∧ (↑(nsg cl2 n2 (wz g2)) : Int) =
(↑(nsg cl2 n2 (wz g2)) : Int) ∧ Go.IntKind.wrap .i64 ((↑i : Int) + 1) = (↑i' : Int) ∧ True) ∧ True ∧ (cl = cl ∧ cw = cw ∧ cv = cv ∧ k = k ∧ True ∧ x = x ∧ y = y ∧ z = z ∧ w = w ∧ (True ∧ n = n) ∧ True) ∧
 True ∧ (2 * n ≤ 2 * n ∧ ∀ (i : Nat), i < 2 * n → g i = g i) ∧ True ∧ (cl2 = cl2 ∧ cw2 = cw2 ∧ cv2 = cv2 ∧ k2 = k2 ∧ True ∧ x2 = x2 ∧ y2 = y2 ∧ z2 = z2 ∧ w2 = w2 ∧ (True ∧ n2 = n2) ∧ True) ∧ True ∧ (2 * n2 ≤ 2 *
 n2 ∧ ∀ (i : Nat), i < 2 * n2 → g2 i = g2 i) ∧ True)) ∧ (decide ((↑i : Int) < (↑(nsg cl2 n2 (wz g2)) : Int)) = false → rcrS g n (nsg cl n (wz g)) cl cw
 cv x y z w g2 n2 (nsg cl2 n2 (wz g2)) cl2 x2 y2 z2 w2 al = true ∧ True)))))) := by kernel_rfl
theorem rcrSS : ConOk Tryz.prog 213 (conR rcrSSC) := by
 refine con_of_vc grcS Tryz.func213 rfl (by kernel_rfl) fun args => ?_
 unfold rcrSSC
 split
 · rename_i s s2 v
   intro o0
   show RdM.All _ (match serOf o0.c with | some (cl, cw, cv, k, x, y, z, w, p, n) => _ | none => _) _
   split
   · rename_i cl cw cv k x y z w p n hm0
     intro o1
     show RdM.All _ (match fltsFrom .f64 o1.c with | some (m, g) => _ | none => _) _
     split
     · rename_i m1 g hm1
       intro o2
       show RdM.All _ (match serOf o2.c with | some (cl2, cw2, cv2, k2, x2, y2, z2, w2, q2, n2) => _ | none => _) _
       split
       · rename_i cl2 cw2 cv2 k2 x2 y2 z2 w2 q2 n2 hm2
         intro o3
         show RdM.All _ (match fltsFrom .f64 o3.c with | some (m, g) => _ | none => _) _
         split
         · rename_i m3 g2 hm3
           show RdM.All _ (match v.toB with | some b => _ | none => _) _
           split
           · rename_i al hal
             intro ho
             replace ho : m1 = 2 * n ∧ m3 = 2 * n2 ∧ (n ≤ 1000000 ∧ SmF g (2 * n)) ∧ (n2 ≤ 1000000 ∧ SmF g2 (2 * n2)) ∧ W1 x2 ∧ W1 y2 ∧ W1 z2 ∧ W1 w2 := ho
             obtain ⟨hsz1, hsz3, ho⟩ := ho
             subst hsz1
             subst hsz3
             refine ⟨?_, _, _, (vc_rcrSS cl cw cv k x y z w p n cl2 cw2 cv2 k2 x2 y2 z2 w2 q2 n2 al g g2).mpr ?_⟩
             · refine okFlag_mk rfl ⟨?_, ⟨trivial, serOf_spec hm0 (by simp [sgSig, fsts, nth, sameN_self]), ⟨trivial, (contR_flts hm1).1, ⟨trivial, serOf_spec hm2 (by simp [sgSig, fsts, nth, sameN_self]), ⟨trivial, (contR_flts hm3).1, trivial⟩⟩⟩⟩⟩
               simp [eqvRL, eqvR, sgSig, fsts, nth, sameN_self, toB_eqvR hal]
             · obtain ⟨⟨hn, hg⟩, ⟨hn2, hg2⟩, hx2, hy2, hz2, hw2⟩ := ho
               have hns2 := nsg_le cl2 n2 (wz g2)
               have e1 : decide (n < 2 ∨ cl = true ∧ n < 3) = emp cl n := rfl
               have e1' : decide (n2 < 2 ∨ cl2 = true ∧ n2 < 3) = emp cl2 n2 := rfl
               have e2 : (!fLt .f64 x2 x && !fGt .f64 z2 z && !fLt .f64 y2 y && !fGt .f64 w2 w) = inF x y z w x2 y2 z2 w2 := rfl
               generalize nsg cl n (wz g) = N
               generalize nsg cl2 n2 (wz g2) = N2 at *
               have e3 : decide ((16 : Int) ≤ (n2 : Int)) = decide (16 ≤ n2) := decide_eq_decide.2 (by omega)
               simp only [true_and, and_true, eq_self, Nat.le_refl, implies_true, e1, e1', e2, e3, Int.toNat_natCast]
               refine ⟨fun q => by unfold rcrS; rw [q]; rfl, fun q => ⟨fun q' => by unfold rcrS; rw [q, q']; rfl, fun q' => ⟨⟨fun h16 => ⟨⟨hn, hg, hx2, hy2, hz2, hw2⟩, fun hr => ?_, fun hr => ⟨0, q, q', by rw [hr, Bool.and_false]⟩⟩, fun h16 => ⟨0, q, q', by rw [h16, Bool.false_and]⟩⟩, fun _ h6 => ⟨fun q2 => ?_, fun q2 => ⟨fun hv => ⟨⟨0, ⟨by omega, ⟨h6, by simpa using q2, hv⟩, rfl⟩, rfl⟩, fun i hi => ⟨fun h => ?_, fun h => ?_⟩⟩, fun hv => ⟨⟨hn2, hg2⟩, ⟨0, ⟨by omega, ⟨h6, by simpa using q2, hv⟩, rfl⟩, rfl⟩, fun i hi => ⟨fun h => ?_, fun h => ?_⟩⟩⟩⟩⟩⟩⟩
               · unfold rcrS
                 rw [q, q', h16, hr]; rfl
               · unfold rcrS
                 rw [h6.1, h6.2.1, h6.2.2, show inF x y z w x2 y2 z2 w2 = false by simpa using q2]
                 rfl
               · have h := of_decide_eq_true h
                 have hw : IntKind.i64.wrap ((i : Int) + 1) = ((i + 1 : Nat) : Int) := by rw [wrap64 (by omega) (by omega)]; omega
                 rw [hw]
                 refine ⟨⟨by omega, by omega⟩, ⟨hn, hg, hg2 _ (by omega), hg2 _ (by omega)⟩, fun q3 => ?_, fun q3 => ⟨i + 1, ⟨by omega, hi.2.1, ?_⟩, by omega, rfl⟩⟩
                 · have : allB (sPs g n N x y z w g2 al) n2 = false := allB_no (i := i) (by omega) (show (rcp g n N x y z w (g2 (2 * i)) (g2 (2 * i + 1)) al).1 = false by simpa using q3)
                   unfold rcrS
                   rw [h6.1, h6.2.1, h6.2.2, hv, if_pos rfl, this]
                   simp
                 · show (allB (sPs g n N x y z w g2 al) i && sPs g n N x y z w g2 al i) = true
                   rw [hi.2.2]
                   show (true && (rcp g n N x y z w (g2 (2 * i)) (g2 (2 * i + 1)) al).1) = true
                   simpa using q3
               · have h := of_decide_eq_false h
                 have : i = n2 := by omega
                 subst this
                 unfold rcrS
                 rw [h6.1, h6.2.1, h6.2.2, hi.2.1.2.1, hv, if_pos rfl, hi.2.2]
                 rfl
               · have h := of_decide_eq_true h
                 have hw : IntKind.i64.wrap ((i : Int) + 1) = ((i + 1 : Nat) : Int) := by rw [wrap64 (by omega) (by omega)]; omega
                 have n1 := nx_lt (show i < n2 by omega)
                 rw [hw]
                 refine ⟨⟨by omega, by omega, hn2⟩, ⟨hn, hg, hg2 _ (by omega), hg2 _ (by omega), hg2 _ (by omega), hg2 _ (by omega)⟩, fun q3 => ?_, fun q3 => ⟨i + 1, ⟨by omega, hi.2.1, ?_⟩, by omega, rfl⟩⟩
                 · have : allB (sSs g n N cw cv x y z w g2 n2 al) N2 = false := allB_no (i := i) (by omega) (show rcs g n N cw cv x y z w (g2 (2 * i)) (g2 (2 * i + 1)) (g2 (2 * nx n2 i)) (g2 (2 * nx n2 i + 1)) al = false by simpa using q3)
                   unfold rcrS
                   rw [h6.1, h6.2.1, h6.2.2, if_neg (by simp [hv]), this]
                   simp
                 · show (allB (sSs g n N cw cv x y z w g2 n2 al) i && sSs g n N cw cv x y z w g2 n2 al i) = true
                   rw [hi.2.2]
                   show (true && rcs g n N cw cv x y z w (g2 (2 * i)) (g2 (2 * i + 1)) (g2 (2 * nx n2 i)) (g2 (2 * nx n2 i + 1)) al) = true
                   simpa using q3
               · have h := of_decide_eq_false h
                 have : i = N2 := by omega
                 subst this
                 unfold rcrS
                 rw [h6.1, h6.2.1, h6.2.2, hi.2.1.2.1, if_neg (by simp [hv]), hi.2.2]
                 rfl
           · trivial
         · trivial
       · trivial
     · trivial
   · trivial
 · trivial
theorem anyB_not {p : Nat → Bool} : ∀ {m : Nat}, (∀ i, i < m → p i = false) → anyB p m = false
 | 0, _ => rfl
 | m + 1, h => by
   show (anyB p m || p m) = false
   rw [anyB_not (fun i hi => h i (by omega)), h m (by omega)]; rfl
def arF (a b c d : Nat) : Nat := fop .mul .f64 (fop .sub .f64 c a) (fop .sub .f64 d b)
theorem ar_ok {a b c d : Nat} (ha : W1 a) (hb : W1 b) (hc : W1 c) (hd : W1 d) : (fok .sub .f64 c a ∧ fok .sub .f64 d b ∧ fok .mul .f64 (fop .sub .f64 c a) (fop .sub .f64 d b)) ∧ FI (arF a b c d) ((wh c - wh a) * (wh d - wh b)) := by
 have s1 : (wh c - wh a).natAbs ≤ 2097152 := by have := ha.2; have := hc.2; unfold small at *; omega
 have s2 : (wh d - wh b).natAbs ≤ 2097152 := by have := hb.2; have := hd.2; unfold small at *; omega
 have p1 := natAbs_mul_le s1 s2
 obtain ⟨k1, e1⟩ := sub_F hc.1 ha.1 (by omega)
 obtain ⟨k2, e2⟩ := sub_F hd.1 hb.1 (by omega)
 obtain ⟨k3, e3⟩ := mul_of e1 e2 (by omega)
 exact ⟨⟨k1, k2, k3⟩, e3⟩
section
variable (g : Nat → Nat) (n ns x y z w : Nat)
noncomputable def sIs (g2 : Nat → Nat) (n2 : Nat) (al : Bool) (i : Nat) : Bool := ris g n ns x y z w (g2 (2 * i)) (g2 (2 * i + 1)) (g2 (2 * nx n2 i)) (g2 (2 * nx n2 i + 1)) al
end
def rirB (e1 e2 m gt s1 s2 : Bool) : Bool := !e1 && (!e2 && (m && (if gt = true then s1 else s2)))
def ri9 (nt : Nat) (H : Heap) (a b : SV) (al : Bool) (m : Nat) (t : Int) (k : Nat) (P : Nat → Prop) : Fam := ⟨Nat, fun i => ⟨nt, [(0, a), (1, b), (2, .bool al), (7, .int .i64 t), (8, .int .i64 i)], H, m⟩, fun i => i ≤ k ∧ P i, fun i => k - i⟩
def noneB (p : Nat → Bool) (i : Nat) : Prop := ∀ j, j < i → p j = false
noncomputable def ris2 : Con := swC (ifcIs 157) (conR risSC) (conR risRC)
theorem ris2_ok : ConOk Tryz.prog 207 ris2 := ConOk.sw risS risR
noncomputable def GirS : Ctx := ⟨⟨tys, []⟩, [(163, conR sEmptyC), (192, pureCon rEmptyF), (164, conR sRectSC), (198, pureCon rRectF), (175, pureCon rMeetF), (188, pureCon rAreaF), (111, conR sNumSC), (203, pureCon rNumSF), (112, conR sSegC), (204, pureCon rSegAtF), (207, ris2)]⟩
theorem girS : CtxOk Tryz.prog GirS := ⟨⟨tysOk, FlatsOk.nil⟩, GamOk.cons sEmpty (GamOk.cons (.pure rEmpty) (GamOk.cons sRectS (GamOk.cons (.pure rRect) (GamOk.cons (.pure rMeet) (GamOk.cons (.pure rArea) (GamOk.cons sNumS (GamOk.cons (.pure rNumS) (GamOk.cons sSeg (GamOk.cons (.pure rSegAt) (GamOk.cons ris2_ok GamOk.nil)))))))))), by kernel_rfl⟩
noncomputable def rirSSC : List SV → RdM
 | [.ifc 157 (.ptr s 0), .ifc 157 (.ptr s2 0), v] => .read s fun o0 => (match serOf o0.c with
   | some (cl, cw, cv, k, x, y, z, w, p, n) => .read p fun o1 => (match fltsFrom .f64 o1.c with
   | some (m1, g) => .read s2 fun o2 => (match serOf o2.c with
   | some (cl2, cw2, cv2, k2, x2, y2, z2, w2, q2, n2) => .read q2 fun o3 => (match fltsFrom .f64 o3.c with
   | some (m3, g2) => (match v.toB with
   | some al => .ret ⟨[.ifc 157 (.ptr 0 0), .ifc 157 (.ptr 2 0), .bool al], [(0, ⟨false, 150, serC cl cw cv k x y z w 1 n, 0⟩), (1, ⟨false, 100, .flts .f64 m1 g, 0⟩), (2, ⟨false, 150, serC cl2 cw2 cv2 k2 x2 y2 z2 w2 3 n2, 0⟩), (3, ⟨false, 100, .flts .f64 m3 g2, 0⟩)], .bool (rirB (emp cl n) (emp cl2 n2) (mt4 x y z w x2 y2 z2 w2) (fGt .f64 (arF x2 y2 z2 w2) (arF x y z w)) (anyB (sIs g2 n2 (nsg cl2 n2 (wz g2)) x2 y2 z2 w2 g n al) (nsg cl n (wz g))) (anyB (sIs g n (nsg cl n (wz g)) x y z w g2 n2 al) (nsg cl2 n2 (wz g2)))), [], [], some (m1 = 2 * n ∧ m3 = 2 * n2 ∧ ((n ≤ 1000000 ∧ SmF g (2 * n)) ∧ (W1 x ∧ W1 y ∧ W1 z ∧ W1 w)) ∧ ((n2 ≤ 1000000 ∧ SmF g2 (2 * n2)) ∧ (W1 x2 ∧ W1 y2 ∧ W1 z2 ∧ W1 w2)))⟩
   | none => .fail)
   | none => .fail)
   | none => .fail)
   | none => .fail)
   | none => .fail)
 | _ => .fail
theorem vc_rirSS (cl cw cv : Bool) (k : Int) (x y z w : Nat) (_ : Nm) (n : Nat) (cl2 cw2 cv2 : Bool) (k2 : Int) (x2 y2 z2 w2 : Nat) (_ : Nm) (n2 : Nat) (al : Bool)  (g : Nat → Nat) (g2 : Nat → Nat) : runA GirS 4 [(9, .alt [ri9 43 (HS1 cl cw cv k x y z w n g ++ HS2 cl2 cw2 cv2 k2 x2 y2 z2 w2 n2 g2) (.ifc 157 (.ptr 0 0)) (.ifc 157 (.ptr 2 0)) al 4 (nsg cl2 n2 (wz g2)) (nsg cl2 n2 (wz g2)) (fun i => (((emp cl n) = false ∧ (emp cl2 n2) = false ∧ mt4 x y z w x2 y2 z2 w2 = true) ∧ (fGt .f64 (arF x2 y2 z2 w2) (arF x y z w)) = false) ∧ noneB (sIs g n (nsg cl n (wz g)) x y z w g2 n2 al) i), ri9 43 (HS1 cl cw cv k x y z w n g ++ HS2 cl2 cw2 cv2 k2 x2 y2 z2 w2 n2 g2) (.ifc 157 (.ptr 2 0)) (.ifc 157 (.ptr 0 0)) al 4 (nsg cl n (wz g)) (nsg cl n (wz g)) (fun i => (((emp cl n) = false ∧ (emp cl2 n2) = false ∧ mt4 x y z w x2 y2 z2 w2 = true) ∧ (fGt .f64 (arF x2 y2 z2 w2) (arF x y z w)) = true) ∧ noneB (sIs g2 n2 (nsg cl2 n2 (wz g2)) x2 y2 z2 w2 g n al) i)])] [] (codeOf Tryz.f212) (init Tryz.f212.ntmps [.ifc 157 (.ptr 0 0), .ifc 157 (.ptr 2 0), .bool al] [(0, ⟨false, 150, serC cl cw cv k x y z w 1 n, 0⟩), (1, ⟨false, 100, .flts .f64 (2 * n) g, 0⟩), (2, ⟨false, 150, serC cl2 cw2 cv2 k2 x2 y2 z2 w2 3 n2, 0⟩), (3, ⟨false, 100, .flts .f64 (2 * n2) g2, 0⟩)] 4) (endK GirS.E.T Tryz.f212.results.toList fun S v => postP 4 ⟨[.ifc 157 (.ptr 0 0), .ifc 157 (.ptr 2 0), .bool al], [(0, ⟨false, 150, serC cl cw cv k x y z w 1 n, 0⟩), (1, ⟨false, 100, .flts .f64 (2 * n) g, 0⟩), (2, ⟨false, 150, serC cl2 cw2 cv2 k2 x2 y2 z2 w2 3 n2, 0⟩), (3, ⟨false, 100, .flts .f64 (2 * n2) g2, 0⟩)], .bool (rirB (emp cl n) (emp cl2 n2) (mt4 x y z w x2 y2 z2 w2) (fGt .f64 (arF x2 y2 z2 w2) (arF x y z w)) (anyB (sIs g2 n2 (nsg cl2 n2 (wz g2)) x2 y2 z2 w2 g n al) (nsg cl n (wz g))) (anyB (sIs g n (nsg cl n (wz g)) x y z w g2 n2 al) (nsg cl2 n2 (wz g2)))), [], [], some (2 * n = 2 * n ∧ 2 * n2 = 2 * n2 ∧ ((n ≤ 1000000 ∧ SmF g (2 * n)) ∧ (W1 x ∧ W1 y ∧ W1 z ∧ W1 w)) ∧ ((n2 ≤ 1000000 ∧ SmF g2 (2 * n2)) ∧ (W1 x2 ∧ W1 y2 ∧ W1 z2 ∧ W1 w2)))⟩ S v) = (
(2 * n = 2 * n ∧ True) ∧ (decide (n < 2 ∨ cl = true ∧ n < 3) = true → rirB (emp cl n) (emp cl2 n2) (mt4 x y z w x2 y2 z2 w2) (fGt .f64
(arF x2 y2 z2 w2) (arF x y z w)) (anyB (sIs g2 n2 (nsg cl2 n2 (wz g2)) x2 y2 z2 w2 g n al) (nsg cl n (wz
 g))) (anyB (sIs g n (nsg cl n (wz g)) x y z w g2 n2 al) (nsg cl2 n2 (wz g2))) = false ∧ True) ∧ (decide (n < 2 ∨ cl = true ∧ n < 3) = false → (2 * n2 = 2 * n2 ∧ True) ∧ (decide (n2 < 2 ∨ cl2 = true ∧ n2 < 3) = true → rirB (emp cl n) (emp cl2 n2) (mt4 x y z w x2 y2 z2 w2)
(fGt .f64 (arF x2 y2 z2 w2) (arF x y z w)) (anyB (sIs g2 n2 (nsg cl2 n2 (wz g2)) x2 y2 z2 w2 g n al) (nsg cl n
(wz g))) (anyB (sIs g n (nsg cl n (wz g)) x y z w g2 n2 al) (nsg cl2 n2 (wz g2))) = false ∧ True) ∧ (decide (n2 < 2
∨ cl2 = true ∧ n2 < 3) = false → (2 * n = 2 * n ∧ True) ∧ (2 * n2 = 2 * n2 ∧ True) ∧ ((!(!fGt .f64 y w2 && !fLt .f64 w y2 && !fGt .f64 x z2 && !fLt .f64 z x2)) = true →
 rirB (emp cl n) (emp cl2 n2) (mt4 x y z w x2 y2 z2 w2) (fGt .f64 (arF x2 y2 z2 w2) (arF x y z w)) (anyB
(sIs g2 n2 (nsg cl2 n2 (wz g2)) x2 y2 z2 w2 g n al) (nsg cl n (wz g))) (anyB (sIs g n (nsg cl n
(wz g)) x y z w g2 n2 al) (nsg cl2 n2 (wz g2))) = false ∧ True) ∧ ((!(!fGt .f64 y w2 && !fLt .f64 w y2 && !fGt .f64 x z2 && !fLt .f64 z x2)) = false → (2 * n2 = 2 * n2 ∧ True) ∧ (fok BinOp.sub .f64 z2 x2 ∧ fok BinOp.sub .f64 w2 y2 ∧ fok BinOp.mul .f64 (fop BinOp.sub .f64 z2 x2) (fop BinOp.sub .f64 w2 y2)) ∧ (2 * n = 2 * n ∧ True) ∧ (fok BinOp.sub .f64
 z x ∧ fok BinOp.sub .f64 w y ∧ fok BinOp.mul .f64 (fop BinOp.sub .f64 z x) (fop BinOp.sub .f64 w y)) ∧ (fGt .f64 (fop BinOp.mul .f64 (fop BinOp.sub .f64 z2 x2) (fop BinOp.sub .f64 w2 y2)) (fop
 BinOp.mul .f64 (fop BinOp.sub .f64 z x) (fop BinOp.sub .f64 w y)) = true → (2 * n = 2 * n ∧ n ≤ 1000000 ∧ SmF g (2 * n)) ∧ (((∃ (i : Nat), (i ≤ nsg cl2 n2
(wz g2) ∧ ((emp cl n = false ∧ emp cl2 n2 = false ∧ mt4 x y z w x2 y2 z2 w2 = true) ∧ fGt .f64 (arF x2 y2 z2 w2) (arF x y z w) = false)
∧ noneB (sIs g n (nsg cl n (wz g)) x y z w g2 n2 al) i) ∧ ((False ∧ 0 = 0) ∧ (False ∧ 0 = 0) ∧ al = al ∧ (↑(nsg cl n
(wz g)) : Int) = (↑(nsg cl2 n2 (wz g2)) : Int) ∧ 0 = (↑i : Int) ∧ True) ∧ True ∧ (cl = cl ∧ cw = cw ∧ cv = cv ∧ k = k ∧ True ∧ x = x ∧ y = y ∧ z = z ∧ w = w ∧ (True ∧ n = n) ∧ True) ∧ True
∧ (2 * n ≤ 2 * n ∧ ∀ (i : Nat), i < 2 * n → g i = g i) ∧ True ∧ (cl2 = cl2 ∧ cw2 = cw2 ∧ cv2 = cv2 ∧ k2 = k2 ∧ True ∧ x2 = x2 ∧ y2 = y2 ∧ z2 = z2 ∧ w2 = w2 ∧ (True ∧ n2 = n2) ∧ True) ∧ True ∧ (2 * n2 ≤ 2 * n2 ∧
∀ (i : Nat), i < 2 * n2 → g2 i = g2 i) ∧ True) ∧ ∀ (i : Nat), i ≤ nsg cl2 n2 (wz g2) ∧ ((emp cl n = false ∧ emp cl2 n2 = false ∧ mt4 x y z w x2 y2 z2 w2
= true) ∧ fGt .f64 (arF x2 y2 z2 w2) (arF x y z w) = false) ∧ noneB (sIs g n (nsg cl n (wz g)) x y z w g2 n2 al) i → (decide ((↑i : Int)
< (↑(nsg cl2 n2 (wz g2)) : Int)) = true → (2 * n2 = 2 * n2 ∧ 0 ≤ (↑i : Int) ∧ (↑i : Int) < (↑n2 : Int) ∧ n2 ≤ 1000000) ∧ (2 * n = 2 * n ∧ n ≤ 1000000 ∧
 SmF g (2 * n) ∧ W1 (g2 (2 * Int.toNat (↑i : Int))) ∧ W1 (g2 (2 * Int.toNat (↑i : Int) + 1)) ∧ W1 (g2 (2 * nx n2
(Int.toNat (↑i : Int)))) ∧ W1 (g2 (2 * nx n2 (Int.toNat (↑i : Int)) + 1))) ∧ (ris g n (nsg cl n (wz g)) x y z w (g2 (2 * Int.toNat (↑i :
 Int))) (g2 (2 * Int.toNat (↑i : Int) + 1)) (g2 (2 * nx n2 (Int.toNat (↑i : Int)))) (g2 (2 * nx n2 (Int.toNat (↑i : Int)) + 1)) al = true → rirB
(emp cl n) (emp cl2 n2) (mt4 x y z w x2 y2 z2 w2) (fGt .f64 (arF x2 y2 z2 w2) (arF x y z w)) (anyB (sIs g2 n2
(nsg cl2 n2 (wz g2)) x2 y2 z2 w2 g n al) (nsg cl n (wz g))) (anyB (sIs g n (nsg cl n (wz g)) x y z w g2 n2
 al) (nsg cl2 n2 (wz g2))) = true ∧ True) ∧ (ris g n (nsg cl n (wz g)) x y z w (g2 (2 * Int.toNat (↑i : Int))) (g2 (2 * Int.toNat (↑i : Int) + 1)) (g2 (2 * nx n2 (Int.toNat (↑i : Int)))) (g2 (2 * nx n2 (Int.toNat (↑i : Int)) + 1)) al = false → ∃ (i' : Nat), (i' ≤ nsg cl2 n2 (wz g2) ∧
((emp cl n = false ∧ emp cl2 n2 = false ∧ mt4 x y z w x2 y2 z2 w2 = true) ∧ fGt .f64 (arF x2 y2 z2 w2) (arF x y z w) = false) ∧ noneB
(sIs g n (nsg cl n (wz g)) x y z w g2 n2 al) i') ∧ nsg cl2 n2 (wz g2) - i' < nsg cl2 n2 (wz g2) - i ∧ ((True ∧ 0 =
0) ∧ (True ∧ 0 = 0) ∧ al = al ∧ (↑(nsg cl2 n2 (wz g2)) : Int) = (↑(nsg cl2 n2 (wz g2)) : Int) ∧ Go.IntKind.wrap .i64 ((↑i : Int) + 1) = (↑i' :
 Int) ∧ True) ∧ True ∧ (cl = cl ∧ cw = cw ∧ cv = cv ∧ k = k ∧ True ∧ x = x ∧ y = y ∧ z = z ∧ w = w ∧ (True ∧ n = n) ∧ True) ∧ True ∧ (2 * n ≤ 2 * n ∧ ∀ (i : Nat), i < 2 * n → g i = g i) ∧ True ∧ (cl2 = cl2 ∧ cw2 = cw2 ∧ cv2 =
 cv2 ∧ k2 = k2 ∧ True ∧ x2 = x2 ∧ y2 = y2 ∧ z2 = z2 ∧ w2 = w2 ∧ (True ∧ n2 = n2) ∧ True) ∧ True ∧ (2 * n2 ≤ 2 * n2 ∧ ∀ (i : Nat), i < 2 * n2 → g2 i = g2 i) ∧ True)) ∧ (decide ((↑i : Int) < (↑(nsg cl2 n2
(wz g2)) : Int)) = false → rirB (emp cl n) (emp cl2 n2) (mt4 x y z w x2 y2 z2 w2) (fGt .f64 (arF x2 y2 z2 w2) (arF x y
 z w)) (anyB (sIs g2 n2 (nsg cl2 n2 (wz g2)) x2 y2 z2 w2 g n al) (nsg cl n (wz g))) (anyB (sIs g n
(nsg cl n (wz g)) x y z w g2 n2 al) (nsg cl2 n2 (wz g2))) = false ∧ True)) ∨ ((∃ (i : Nat), (i ≤ nsg cl n (wz g) ∧ ((emp cl
 n = false ∧ emp cl2 n2 = false ∧ mt4 x y z w x2 y2 z2 w2 = true) ∧ fGt .f64 (arF x2 y2 z2 w2) (arF x y z w) = true) ∧ noneB (sIs g2 n2
(nsg cl2 n2 (wz g2)) x2 y2 z2 w2 g n al) i) ∧ ((True ∧ 0 = 0) ∧ (True ∧ 0 = 0) ∧ al = al ∧ (↑(nsg cl n (wz g)) : Int) = (↑(nsg
 cl n (wz g)) : Int) ∧ 0 = (↑i : Int) ∧ True) ∧ True ∧ (cl = cl ∧ cw = cw ∧ cv = cv ∧ k = k ∧ True ∧ x = x ∧ y = y ∧ z = z ∧ w = w ∧ (True ∧ n = n) ∧ True) ∧ True ∧ (2 * n ≤ 2 * n ∧ ∀ (i : Nat), i < 2
* n → g i = g i) ∧ True ∧ (cl2 = cl2 ∧ cw2 = cw2 ∧ cv2 = cv2 ∧ k2 = k2 ∧ True ∧ x2 = x2 ∧ y2 = y2 ∧ z2 = z2 ∧ w2 = w2 ∧ (True ∧ n2 = n2) ∧ True) ∧ True ∧ (2 * n2 ≤ 2 * n2 ∧ ∀ (i : Nat), i < 2 * n2 → g2 i = g2 i) ∧ True) ∧ ∀ (i
: Nat), i ≤ nsg cl n (wz g) ∧ ((emp cl n = false ∧ emp cl2 n2 = false ∧ mt4 x y z w x2 y2 z2 w2 = true) ∧ fGt .f64 (arF x2 y2 z2 w2)
(arF x y z w) = true) ∧ noneB (sIs g2 n2 (nsg cl2 n2 (wz g2)) x2 y2 z2 w2 g n al) i → (decide ((↑i : Int) < (↑(nsg cl n (wz
 g)) : Int)) = true → (2 * n = 2 * n ∧ 0 ≤ (↑i : Int) ∧ (↑i : Int) < (↑n : Int) ∧ n ≤ 1000000) ∧ (2 * n2 = 2 * n2 ∧ n2 ≤ 1000000 ∧ SmF g2 (2 * n2) ∧ W1
(g (2 * Int.toNat (↑i : Int))) ∧ W1 (g (2 * Int.toNat (↑i : Int) + 1)) ∧ W1 (g (2 * nx n (Int.toNat (↑i : Int)))) ∧ W1 (g (2 *
 nx n (Int.toNat (↑i : Int)) + 1))) ∧ (ris g2 n2 (nsg cl2 n2 (wz g2)) x2 y2 z2 w2 (g (2 * Int.toNat (↑i : Int))) (g (2 * Int.toNat (↑i : Int) + 1))
(g (2 * nx n (Int.toNat (↑i : Int)))) (g (2 * nx n (Int.toNat (↑i : Int)) + 1)) al = true → rirB (emp cl n) (emp cl2 n2)
(mt4 x y z w x2 y2 z2 w2) (fGt .f64 (arF x2 y2 z2 w2) (arF x y z w)) (anyB (sIs g2 n2 (nsg cl2 n2 (wz g2)) x2 y2 z2 w2
 g n al) (nsg cl n (wz g))) (anyB (sIs g n (nsg cl n (wz g)) x y z w g2 n2 al) (nsg cl2 n2 (wz g2))) = true
∧ True) ∧ (ris g2 n2 (nsg cl2 n2 (wz g2)) x2 y2 z2 w2 (g (2 * Int.toNat (↑i : Int))) (g (2 * Int.toNat (↑i : Int) + 1)) (g (2 * nx n (Int.toNat
(↑i : Int)))) (g (2 * nx n (Int.toNat (↑i : Int)) + 1)) al = false → ∃ (i' : Nat), (i' ≤ nsg cl n (wz g) ∧ ((emp cl n = false ∧ emp cl2 n2 =
 false ∧ mt4 x y z w x2 y2 z2 w2 = true) ∧ fGt .f64 (arF x2 y2 z2 w2) (arF x y z w) = true) ∧ noneB (sIs g2 n2 (nsg cl2 n2
(wz g2)) x2 y2 z2 w2 g n al) i') ∧ nsg cl n (wz g) - i' < nsg cl n (wz g) - i ∧ ((True ∧ 0 = 0) ∧ (True ∧ 0 = 0) ∧ al = al ∧
(↑(nsg cl n (wz g)) : Int) = (↑(nsg cl n (wz g)) : Int) ∧ Go.IntKind.wrap .i64 ((↑i : Int) + 1) = (↑i' : Int) ∧ True) ∧ True ∧ (cl = cl ∧ cw = cw ∧ cv = cv ∧ k = k ∧ True
∧ x = x ∧ y = y ∧ z = z ∧ w = w ∧ (True ∧ n = n) ∧ True) ∧ True ∧ (2 * n ≤ 2 * n ∧ ∀ (i : Nat), i < 2 * n → g i = g i) ∧ True ∧ (cl2 = cl2 ∧ cw2 = cw2 ∧ cv2 = cv2 ∧ k2 = k2 ∧ True ∧ x2 = x2 ∧ y2 = y2 ∧ z2 = z2 ∧ w2 = w2 ∧
(True ∧ n2 = n2) ∧ True) ∧ True ∧ (2 * n2 ≤ 2 * n2 ∧ ∀ (i : Nat), i < 2 * n2 → g2 i = g2 i) ∧ True)) ∧ (decide ((↑i : Int) < (↑(nsg cl n (wz g)) : Int)) = false → rirB
(emp cl n) (emp cl2 n2) (mt4 x y z w x2 y2 z2 w2) (fGt .f64 (arF x2 y2 z2 w2) (arF x y z w)) (anyB (sIs g2 n2
(nsg cl2 n2 (wz g2)) x2 y2 z2 w2 g n al) (nsg cl n (wz g))) (anyB (sIs g n (nsg cl n (wz g)) x y z w g2 n2
 al) (nsg cl2 n2 (wz g2))) = false ∧ True)) ∨ False)) ∧ (fGt .f64 (fop BinOp.mul .f64 (fop BinOp.sub .f64 z2 x2) (fop BinOp.sub .f64 w2 y2)) (fop BinOp.mul .f64 (fop BinOp.sub
.f64 z x) (fop BinOp.sub .f64 w y)) = false → (2 * n2 = 2 * n2 ∧ n2 ≤ 1000000 ∧ SmF g2 (2 * n2)) ∧ (((∃ (i : Nat), (i ≤ nsg cl2 n2 (wz g2) ∧
((emp cl n = false ∧ emp cl2 n2 = false ∧ mt4 x y z w x2 y2 z2 w2 = true) ∧ fGt .f64 (arF x2 y2 z2 w2) (arF x y z w) = false) ∧ noneB
(sIs g n (nsg cl n (wz g)) x y z w g2 n2 al) i) ∧ ((True ∧ 0 = 0) ∧ (True ∧ 0 = 0) ∧ al = al ∧ (↑(nsg cl2 n2 (wz g2)) : Int) =
(↑(nsg cl2 n2 (wz g2)) : Int) ∧ 0 = (↑i : Int) ∧ True) ∧ True ∧ (cl = cl ∧ cw = cw ∧ cv = cv ∧ k = k ∧ True ∧ x = x ∧ y = y ∧ z = z ∧ w = w ∧ (True ∧ n = n) ∧ True) ∧ True ∧ (2 * n ≤ 2 * n ∧
∀ (i : Nat), i < 2 * n → g i = g i) ∧ True ∧ (cl2 = cl2 ∧ cw2 = cw2 ∧ cv2 = cv2 ∧ k2 = k2 ∧ True ∧ x2 = x2 ∧ y2 = y2 ∧ z2 = z2 ∧ w2 = w2 ∧ (True ∧ n2 = n2) ∧ True) ∧ True ∧ (2 * n2 ≤ 2 * n2 ∧ ∀ (i : Nat), i < 2 * n2 →
 g2 i = g2 i) ∧ True) ∧ ∀ (i : Nat), i ≤ nsg cl2 n2 (wz g2) ∧ ((emp cl n = false ∧ emp cl2 n2 = false ∧ mt4 x y z w x2 y2 z2 w2 = true) ∧ fGt .f64
(arF x2 y2 z2 w2) (arF x y z w) = false) ∧ noneB (sIs g n (nsg cl n (wz g)) x y z w g2 n2 al) i → (decide ((↑i : Int) <
(↑(nsg cl2 n2 (wz g2)) : Int)) = true → (2 * n2 = 2 * n2 ∧ 0 ≤ (↑i : Int) ∧ (↑i : Int) < (↑n2 : Int) ∧ n2 ≤ 1000000) ∧ (2 * n = 2 * n ∧ n ≤ 1000000 ∧
 SmF g (2 * n) ∧ W1 (g2 (2 * Int.toNat (↑i : Int))) ∧ W1 (g2 (2 * Int.toNat (↑i : Int) + 1)) ∧ W1 (g2 (2 * nx n2
(Int.toNat (↑i : Int)))) ∧ W1 (g2 (2 * nx n2 (Int.toNat (↑i : Int)) + 1))) ∧ (ris g n (nsg cl n (wz g)) x y z w (g2 (2 * Int.toNat (↑i :
 Int))) (g2 (2 * Int.toNat (↑i : Int) + 1)) (g2 (2 * nx n2 (Int.toNat (↑i : Int)))) (g2 (2 * nx n2 (Int.toNat (↑i : Int)) + 1)) al = true → rirB
(emp cl n) (emp cl2 n2) (mt4 x y z w x2 y2 z2 w2) (fGt .f64 (arF x2 y2 z2 w2) (arF x y z w)) (anyB (sIs g2 n2
(nsg cl2 n2 (wz g2)) x2 y2 z2 w2 g n al) (nsg cl n (wz g))) (anyB (sIs g n (nsg cl n (wz g)) x y z w g2 n2
 al) (nsg cl2 n2 (wz g2))) = true ∧ True) ∧ (ris g n (nsg cl n (wz g)) x y z w (g2 (2 * Int.toNat (↑i : Int))) (g2 (2 * Int.toNat (↑i : Int) + 1)) (g2 (2 * nx n2 (Int.toNat (↑i : Int)))) (g2 (2 * nx n2 (Int.toNat (↑i : Int)) + 1)) al = false → ∃ (i' : Nat), (i' ≤ nsg cl2 n2 (wz g2) ∧
((emp cl n = false ∧ emp cl2 n2 = false ∧ mt4 x y z w x2 y2 z2 w2 = true) ∧ fGt .f64 (arF x2 y2 z2 w2) (arF x y z w) = false) ∧ noneB
(sIs g n (nsg cl n (wz g)) x y z w g2 n2 al) i') ∧ nsg cl2 n2 (wz g2) - i' < nsg cl2 n2 (wz g2) - i ∧ ((True ∧ 0 =
0) ∧ (True ∧ 0 = 0) ∧ al = al ∧ (↑(nsg cl2 n2 (wz g2)) : Int) = (↑(nsg cl2 n2 (wz g2)) : Int) ∧ Go.IntKind.wrap .i64 ((↑i : Int) + 1) = (↑i' :
 Int) ∧ True) ∧ True ∧ (cl = cl ∧ cw = cw ∧ cv = cv ∧ k = k ∧ True ∧ x = x ∧ y = y ∧ z = z ∧ w = w ∧ (True ∧ n = n) ∧ True) ∧ True ∧ (2 * n ≤ 2 * n ∧ ∀ (i : Nat), i < 2 * n → g i = g i) ∧ True ∧ (cl2 = cl2 ∧ cw2 = cw2 ∧ cv2 =
 cv2 ∧ k2 = k2 ∧ True ∧ x2 = x2 ∧ y2 = y2 ∧ z2 = z2 ∧ w2 = w2 ∧ (True ∧ n2 = n2) ∧ True) ∧ True ∧ (2 * n2 ≤ 2 * n2 ∧ ∀ (i : Nat), i < 2 * n2 → g2 i = g2 i) ∧ True)) ∧ (decide ((↑i : Int) < (↑(nsg cl2 n2
(wz g2)) : Int)) = false → rirB (emp cl n) (emp cl2 n2) (mt4 x y z w x2 y2 z2 w2) (fGt .f64 (arF x2 y2 z2 w2) (arF x y
 z w)) (anyB (sIs g2 n2 (nsg cl2 n2 (wz g2)) x2 y2 z2 w2 g n al) (nsg cl n (wz g))) (anyB (sIs g n
(nsg cl n (wz g)) x y z w g2 n2 al) (nsg cl2 n2 (wz g2))) = false ∧ True)) ∨ ((∃ (i : Nat), (i ≤ nsg cl n (wz g) ∧ ((emp cl
 n = false ∧ emp cl2 n2 = false ∧ mt4 x y z w x2 y2 z2 w2 = true) ∧ fGt .f64 (arF x2 y2 z2 w2) (arF x y z w) = true) ∧ noneB (sIs g2 n2
(nsg cl2 n2 (wz g2)) x2 y2 z2 w2 g n al) i) ∧ ((False ∧ 0 = 0) ∧ (False ∧ 0 = 0) ∧ al = al ∧ (↑(nsg cl2 n2 (wz g2)) : Int) =
(↑(nsg cl n (wz g)) : Int) ∧ 0 = (↑i : Int) ∧ True) ∧ True ∧ (cl = cl ∧ cw = cw ∧ cv = cv ∧ k = k ∧ True ∧ x = x ∧ y = y ∧ z = z ∧ w = w ∧ (True ∧ n = n) ∧ True) ∧ True ∧ (2 * n ≤ 2 * n ∧ ∀
(i : Nat), i < 2 * n → g i = g i) ∧ True ∧ (cl2 = cl2 ∧ cw2 = cw2 ∧ cv2 = cv2 ∧ k2 = k2 ∧ True ∧ x2 = x2 ∧ y2 = y2 ∧ z2 = z2 ∧ w2 = w2 ∧ (True ∧ n2 = n2) ∧ True) ∧ True ∧ (2 * n2 ≤ 2 * n2 ∧ ∀ (i : Nat), i < 2 * n2 → g2
 i = g2 i) ∧ True) ∧ ∀ (i : Nat), i ≤ nsg cl n (wz g) ∧ ((emp cl n = false ∧ emp cl2 n2 = false ∧ mt4 x y z w x2 y2 z2 w2 = true) ∧ fGt .f64
(arF x2 y2 z2 w2) (arF x y z w) = true) ∧ noneB (sIs g2 n2 (nsg cl2 n2 (wz g2)) x2 y2 z2 w2 g n al) i → (decide ((↑i : Int) <
(↑(nsg cl n (wz g)) : Int)) = true → (2 * n = 2 * n ∧ 0 ≤ (↑i : Int) ∧ (↑i : Int) < (↑n : Int) ∧ n ≤ 1000000) ∧ (2 * n2 = 2 * n2 ∧ n2 ≤ 1000000 ∧
 SmF g2 (2 * n2) ∧ W1 (g (2 * Int.toNat (↑i : Int))) ∧ W1 (g (2 * Int.toNat (↑i : Int) + 1)) ∧ W1 (g (2 * nx n (Int.toNat
(↑i : Int)))) ∧ W1 (g (2 * nx n (Int.toNat (↑i : Int)) + 1))) ∧ (ris g2 n2 (nsg cl2 n2 (wz g2)) x2 y2 z2 w2 (g (2 * Int.toNat (↑i :
 Int))) (g (2 * Int.toNat (↑i : Int) + 1)) (g (2 * nx n (Int.toNat (↑i : Int)))) (g (2 * nx n (Int.toNat (↑i : Int)) + 1)) al = true → rirB
(emp cl n) (emp cl2 n2) (mt4 x y z w x2 y2 z2 w2) (fGt .f64 (arF x2 y2 z2 w2) (arF x y z w)) (anyB (sIs g2 n2
(nsg cl2 n2 (wz g2)) x2 y2 z2 w2 g n al) (nsg cl n (wz g))) (anyB (sIs g n (nsg cl n (wz g)) x y z w g2 n2
 al) (nsg cl2 n2 (wz g2))) = true ∧ True) ∧ (ris g2 n2 (nsg cl2 n2 (wz g2)) x2 y2 z2 w2 (g (2 * Int.toNat (↑i : Int))) (g (2 * Int.toNat (↑i :
 Int) + 1)) (g (2 * nx n (Int.toNat (↑i : Int)))) (g (2 * nx n (Int.toNat (↑i : Int)) + 1)) al = false → ∃ (i' : Nat), (i' ≤ nsg cl n (wz g) ∧
((emp cl n = false ∧ emp cl2 n2 = false ∧ mt4 x y z w x2 y2 z2 w2 = true) ∧ fGt .f64 (arF x2 y2 z2 w2) (arF x y z w) = true) ∧ noneB
(sIs g2 n2 (nsg cl2 n2 (wz g2)) x2 y2 z2 w2 g n al) i') ∧ nsg cl n (wz g) - i' < nsg cl n (wz g) - i ∧ ((True ∧ 0 =
0) ∧ (True ∧ 0 = 0) ∧ al = al ∧ (↑(nsg cl n (wz g)) : Int) = (↑(nsg cl n (wz g)) : Int) ∧ Go.IntKind.wrap .i64 ((↑i : Int) + 1) = (↑i' : Int) ∧
 True) ∧ True ∧ (cl = cl ∧ cw = cw ∧ cv = cv ∧ k = k ∧ True ∧ x = x ∧ y = y ∧ z = z ∧ w = w ∧ (True ∧ n = n) ∧ True) ∧ True ∧ (2 * n ≤ 2 * n ∧ ∀ (i : Nat), i < 2 * n → g i = g i) ∧ True ∧ (cl2 = cl2 ∧ cw2 = cw2 ∧ cv2 = cv2 ∧ k2
= k2 ∧ True ∧ x2 = x2 ∧ y2 = y2 ∧ z2 = z2 ∧ w2 = w2 ∧ (True ∧ n2 = n2) ∧ True) ∧ True ∧ (2 * n2 ≤ 2 * n2 ∧ ∀ (i : Nat), i < 2 * n2 → g2 i = g2 i) ∧ True)) ∧ (decide ((↑i : Int) < (↑(nsg cl n
(wz g)) : Int)) = false → rirB (emp cl n) (emp cl2 n2) (mt4 x y z w x2 y2 z2 w2) (fGt .f64 (arF x2 y2 z2 w2) (arF x y
 z w)) (anyB (sIs g2 n2 (nsg cl2 n2 (wz g2)) x2 y2 z2 w2 g n al) (nsg cl n (wz g))) (anyB (sIs g n
(nsg cl n (wz g)) x y z w g2 n2 al) (nsg cl2 n2 (wz g2))) = false ∧ True)) ∨ False)))))) := by kernel_rfl
theorem rirSS : ConOk Tryz.prog 212 (conR rirSSC) := by
 refine con_of_vc girS Tryz.func212 rfl (by kernel_rfl) fun args => ?_
 unfold rirSSC
 split
 · rename_i s s2 v
   intro o0
   show RdM.All _ (match serOf o0.c with | some (cl, cw, cv, k, x, y, z, w, p, n) => _ | none => _) _
   split
   · rename_i cl cw cv k x y z w p n hm0
     intro o1
     show RdM.All _ (match fltsFrom .f64 o1.c with | some (m, g) => _ | none => _) _
     split
     · rename_i m1 g hm1
       intro o2
       show RdM.All _ (match serOf o2.c with | some (cl2, cw2, cv2, k2, x2, y2, z2, w2, q2, n2) => _ | none => _) _
       split
       · rename_i cl2 cw2 cv2 k2 x2 y2 z2 w2 q2 n2 hm2
         intro o3
         show RdM.All _ (match fltsFrom .f64 o3.c with | some (m, g) => _ | none => _) _
         split
         · rename_i m3 g2 hm3
           show RdM.All _ (match v.toB with | some b => _ | none => _) _
           split
           · rename_i al hal
             intro ho
             replace ho : m1 = 2 * n ∧ m3 = 2 * n2 ∧ ((n ≤ 1000000 ∧ SmF g (2 * n)) ∧ (W1 x ∧ W1 y ∧ W1 z ∧ W1 w)) ∧ ((n2 ≤ 1000000 ∧ SmF g2 (2 * n2)) ∧ (W1 x2 ∧ W1 y2 ∧ W1 z2 ∧ W1 w2)) := ho
             obtain ⟨hsz1, hsz3, ho⟩ := ho
             subst hsz1
             subst hsz3
             refine ⟨?_, _, _, (vc_rirSS cl cw cv k x y z w p n cl2 cw2 cv2 k2 x2 y2 z2 w2 q2 n2 al g g2).mpr ?_⟩
             · refine okFlag_mk rfl ⟨?_, ⟨trivial, serOf_spec hm0 (by simp [sgSig, fsts, nth, sameN_self]), ⟨trivial, (contR_flts hm1).1, ⟨trivial, serOf_spec hm2 (by simp [sgSig, fsts, nth, sameN_self]), ⟨trivial, (contR_flts hm3).1, trivial⟩⟩⟩⟩⟩
               simp [eqvRL, eqvR, sgSig, fsts, nth, sameN_self, toB_eqvR hal]
             · obtain ⟨⟨⟨hn, hg⟩, hA1, hA2, hA3, hA4⟩, ⟨⟨hn2, hg2⟩, hB1, hB2, hB3, hB4⟩⟩ := ho
               have ar1 := (ar_ok hA1 hA2 hA3 hA4).1
               have ar2 := (ar_ok hB1 hB2 hB3 hB4).1
               have em : (!fGt .f64 y w2 && !fLt .f64 w y2 && !fGt .f64 x z2 && !fLt .f64 z x2) = mt4 x y z w x2 y2 z2 w2 := rfl
               have eg : fGt .f64 (fop .mul .f64 (fop .sub .f64 z2 x2) (fop .sub .f64 w2 y2)) (fop .mul .f64 (fop .sub .f64 z x) (fop .sub .f64 w y)) = (fGt .f64 (arF x2 y2 z2 w2) (arF x y z w)) := rfl
               have eA : decide (n < 2 ∨ cl = true ∧ n < 3) = emp cl n := rfl
               have eB : decide (n2 < 2 ∨ cl2 = true ∧ n2 < 3) = emp cl2 n2 := rfl
               have hns := nsg_le cl n (wz g)
               have hns2 := nsg_le cl2 n2 (wz g2)
               generalize nsg cl n (wz g) = N at *
               generalize nsg cl2 n2 (wz g2) = N2 at *
               simp only [true_and, and_true, eq_self, Nat.le_refl, implies_true, false_and, and_false, exists_false, or_false, false_or, em, eg, Int.toNat_natCast, eA, eB]
               refine ⟨fun q => ?_, fun q => ⟨fun q' => ?_, fun q' => ⟨fun m2 => ?_, fun m2 => ⟨ar2, ar1, fun hgt => ⟨⟨hn, hg⟩, ⟨⟨0, ⟨by omega, ⟨⟨q, q', by simpa using m2⟩, hgt⟩, fun j hj => by omega⟩, rfl⟩, fun i hi => ⟨fun h => ?_, fun h => ?_⟩⟩⟩, fun hgt => ⟨⟨hn2, hg2⟩, ⟨⟨0, ⟨by omega, ⟨⟨q, q', by simpa using m2⟩, hgt⟩, fun j hj => by omega⟩, rfl⟩, fun i hi => ⟨fun h => ?_, fun h => ?_⟩⟩⟩⟩⟩⟩⟩
               · unfold rirB; rw [q]; rfl
               · unfold rirB; rw [q, q']; rfl
               · unfold rirB; rw [show mt4 x y z w x2 y2 z2 w2 = false by simpa using m2]; simp
               · have h := of_decide_eq_true h
                 have hiM : i < N := by omega
                 have hw : IntKind.i64.wrap ((i : Int) + 1) = ((i + 1 : Nat) : Int) := by rw [wrap64 (by omega) (by omega)]; omega
                 have n1 := nx_lt (show i < n by omega)
                 rw [hw]
                 refine ⟨⟨by omega, by omega, hn⟩, ⟨hn2, hg2, hg _ (by omega), hg _ (by omega), hg _ (by omega), hg _ (by omega)⟩, fun q3 => ?_, fun q3 => ⟨i + 1, ⟨by omega, hi.2.1, ?_⟩, by omega, rfl⟩⟩
                 · unfold rirB
                   rw [q, q', show mt4 x y z w x2 y2 z2 w2 = true by simpa using m2, if_pos hgt, anyB_of (p := sIs g2 n2 N2 x2 y2 z2 w2 g n al) hiM q3]
                   rfl
                 · intro j hj
                   by_cases e : j = i
                   · subst e; exact q3
                   · exact hi.2.2 j (by omega)
               · have h := of_decide_eq_false h
                 have : i = N := by omega
                 subst this
                 unfold rirB
                 rw [q, q', show mt4 x y z w x2 y2 z2 w2 = true by simpa using m2, if_pos hgt, anyB_not (p := sIs g2 n2 N2 x2 y2 z2 w2 g n al) hi.2.2]
                 rfl
               · have h := of_decide_eq_true h
                 have hiM : i < N2 := by omega
                 have hw : IntKind.i64.wrap ((i : Int) + 1) = ((i + 1 : Nat) : Int) := by rw [wrap64 (by omega) (by omega)]; omega
                 have n1 := nx_lt (show i < n2 by omega)
                 rw [hw]
                 refine ⟨⟨by omega, by omega, hn2⟩, ⟨hn, hg, hg2 _ (by omega), hg2 _ (by omega), hg2 _ (by omega), hg2 _ (by omega)⟩, fun q3 => ?_, fun q3 => ⟨i + 1, ⟨by omega, hi.2.1, ?_⟩, by omega, rfl⟩⟩
                 · unfold rirB
                   rw [q, q', show mt4 x y z w x2 y2 z2 w2 = true by simpa using m2, if_neg (by simp [hgt]), anyB_of (p := sIs g n N x y z w g2 n2 al) hiM q3]
                   rfl
                 · intro j hj
                   by_cases e : j = i
                   · subst e; exact q3
                   · exact hi.2.2 j (by omega)
               · have h := of_decide_eq_false h
                 have : i = N2 := by omega
                 subst this
                 unfold rirB
                 rw [q, q', show mt4 x y z w x2 y2 z2 w2 = true by simpa using m2, if_neg (by simp [hgt]), anyB_not (p := sIs g n N x y z w g2 n2 al) hi.2.2]
                 rfl
           · trivial
         · trivial
       · trivial
     · trivial
   · trivial
 · trivial
noncomputable def rirRSC : List SV → RdM
 | [.ifc 102 (.agg [.flt .f64 a, .flt .f64 b, .flt .f64 c, .flt .f64 d]), .ifc 157 (.ptr s2 0), v] => .read s2 fun o0 => (match serOf o0.c with
   | some (cl2, cw2, cv2, k2, x2, y2, z2, w2, q2, n2) => .read q2 fun o1 => (match fltsFrom .f64 o1.c with
   | some (m1, g2) => (match v.toB with
   | some al => .ret ⟨[.ifc 102 (.agg [.flt .f64 a, .flt .f64 b, .flt .f64 c, .flt .f64 d]), .ifc 157 (.ptr 0 0), .bool al], [(0, ⟨false, 150, serC cl2 cw2 cv2 k2 x2 y2 z2 w2 1 n2, 0⟩), (1, ⟨false, 100, .flts .f64 m1 g2, 0⟩)], .bool (rirB false (emp cl2 n2) (mt4 a b c d x2 y2 z2 w2) (fGt .f64 (arF x2 y2 z2 w2) (arF a b c d)) (anyB (sIs g2 n2 (nsg cl2 n2 (wz g2)) x2 y2 z2 w2 (rcG a b c d) 4 al) 4) (anyB (sIs (rcG a b c d) 4 4 a b c d g2 n2 al) (nsg cl2 n2 (wz g2)))), [], [], some (m1 = 2 * n2 ∧ (True ∧ (W1 a ∧ W1 b ∧ W1 c ∧ W1 d)) ∧ ((n2 ≤ 1000000 ∧ SmF g2 (2 * n2)) ∧ (W1 x2 ∧ W1 y2 ∧ W1 z2 ∧ W1 w2)))⟩
   | none => .fail)
   | none => .fail)
   | none => .fail)
 | _ => .fail
theorem vc_rirRS (a b c d : Nat) (cl2 cw2 cv2 : Bool) (k2 : Int) (x2 y2 z2 w2 : Nat) (_ : Nm) (n2 : Nat) (al : Bool)  (g2 : Nat → Nat) : runA GirS 2 [(9, .alt [ri9 43 [(0, ⟨false, 150, serC cl2 cw2 cv2 k2 x2 y2 z2 w2 1 n2, 0⟩), (1, ⟨false, 100, .flts .f64 (2 * n2) g2, 0⟩)] (.ifc 102 (.agg [.flt .f64 a, .flt .f64 b, .flt .f64 c, .flt .f64 d])) (.ifc 157 (.ptr 0 0)) al 2 (nsg cl2 n2 (wz g2)) (nsg cl2 n2 (wz g2)) (fun i => ((false = false ∧ (emp cl2 n2) = false ∧ mt4 a b c d x2 y2 z2 w2 = true) ∧ (fGt .f64 (arF x2 y2 z2 w2) (arF a b c d)) = false) ∧ noneB (sIs (rcG a b c d) 4 4 a b c d g2 n2 al) i), ri9 43 [(0, ⟨false, 150, serC cl2 cw2 cv2 k2 x2 y2 z2 w2 1 n2, 0⟩), (1, ⟨false, 100, .flts .f64 (2 * n2) g2, 0⟩)] (.ifc 157 (.ptr 0 0)) (.ifc 102 (.agg [.flt .f64 a, .flt .f64 b, .flt .f64 c, .flt .f64 d])) al 2 4 4 (fun i => ((false = false ∧ (emp cl2 n2) = false ∧ mt4 a b c d x2 y2 z2 w2 = true) ∧ (fGt .f64 (arF x2 y2 z2 w2) (arF a b c d)) = true) ∧ noneB (sIs g2 n2 (nsg cl2 n2 (wz g2)) x2 y2 z2 w2 (rcG a b c d) 4 al) i)])] [] (codeOf Tryz.f212) (init Tryz.f212.ntmps [.ifc 102 (.agg [.flt .f64 a, .flt .f64 b, .flt .f64 c, .flt .f64 d]), .ifc 157 (.ptr 0 0), .bool al] [(0, ⟨false, 150, serC cl2 cw2 cv2 k2 x2 y2 z2 w2 1 n2, 0⟩), (1, ⟨false, 100, .flts .f64 (2 * n2) g2, 0⟩)] 2) (endK GirS.E.T Tryz.f212.results.toList fun S v => postP 2 ⟨[.ifc 102 (.agg [.flt .f64 a, .flt .f64 b, .flt .f64 c, .flt .f64 d]), .ifc 157 (.ptr 0 0), .bool al], [(0, ⟨false, 150, serC cl2 cw2 cv2 k2 x2 y2 z2 w2 1 n2, 0⟩), (1, ⟨false, 100, .flts .f64 (2 * n2) g2, 0⟩)], .bool (rirB false (emp cl2 n2) (mt4 a b c d x2 y2 z2 w2) (fGt .f64 (arF x2 y2 z2 w2) (arF a b c d)) (anyB (sIs g2 n2 (nsg cl2 n2 (wz g2)) x2 y2 z2 w2 (rcG a b c d) 4 al) 4) (anyB (sIs (rcG a b c d) 4 4 a b c d g2 n2 al) (nsg cl2 n2 (wz g2)))), [], [], some (2 * n2 = 2 * n2 ∧ (True ∧ (W1 a ∧ W1 b ∧ W1 c ∧ W1 d)) ∧ ((n2 ≤ 1000000 ∧ SmF g2 (2 * n2)) ∧ (W1 x2 ∧ W1 y2 ∧ W1 z2 ∧ W1 w2)))⟩ S v) = (
(2 * n2 = 2 * n2 ∧ True) ∧ (decide (n2 < 2 ∨ cl2 = true ∧ n2 < 3) = true → rirB false (emp cl2 n2) (mt4 a b c d x2 y2 z2 w2) (fGt .f64 (arF
 x2 y2 z2 w2) (arF a b c d)) (anyB (sIs g2 n2 (nsg cl2 n2 (wz g2)) x2 y2 z2 w2 (rcG a b c d) 4 al) 4) (anyB
(sIs (rcG a b c d) 4 4 a b c d g2 n2 al) (nsg cl2 n2 (wz g2))) = false ∧ True) ∧ (decide (n2 < 2 ∨ cl2 = true ∧ n2 < 3) = false → (2 * n2
= 2 * n2 ∧ True) ∧ ((!(!fGt .f64 b w2 && !fLt .f64 d y2 && !fGt .f64 a z2 && !fLt .f64 c x2)) = true → rirB false (emp cl2 n2) (mt4 a b c d x2 y2 z2 w2) (fGt
.f64 (arF x2 y2 z2 w2) (arF a b c d)) (anyB (sIs g2 n2 (nsg cl2 n2 (wz g2)) x2 y2 z2 w2 (rcG a b c d) 4 al) 4) (anyB (sIs (rcG a b c d) 4 4 a b c d g2 n2 al) (nsg cl2 n2 (wz g2))) = false ∧ True) ∧ ((!(!fGt .f64 b w2 && !fLt .f64 d y2 &&
!fGt .f64 a z2 && !fLt .f64 c x2)) = false → (2 * n2 = 2 * n2 ∧ True) ∧ (fok BinOp.sub .f64 z2 x2 ∧ fok BinOp.sub .f64 w2 y2 ∧ fok BinOp.mul .f64 (fop BinOp.sub .f64 z2 x2) (fop BinOp.sub .f64
 w2 y2)) ∧ (fok BinOp.sub .f64 c a ∧ fok BinOp.sub .f64 d b ∧ fok BinOp.mul .f64 (fop BinOp.sub .f64 c a) (fop BinOp.sub .f64 d b)) ∧ (fGt .f64 (fop BinOp.mul .f64 (fop BinOp.sub .f64 z2 x2) (fop
 BinOp.sub .f64 w2 y2)) (fop BinOp.mul .f64 (fop BinOp.sub .f64 c a) (fop BinOp.sub .f64 d b)) = true → ((∃ (i : Nat), (i ≤ nsg cl2 n2 (wz g2) ∧ ((false = false ∧ emp cl2 n2 =
 false ∧ mt4 a b c d x2 y2 z2 w2 = true) ∧ fGt .f64 (arF x2 y2 z2 w2) (arF a b c d) = false) ∧ noneB (sIs (rcG a b c d) 4 4 a b c d g2 n2 al) i) ∧ (False ∧ False ∧ al = al ∧ 4 = (↑(nsg cl2 n2 (wz g2)) : Int) ∧ 0 = (↑i : Int) ∧ True) ∧ True ∧ (cl2 = cl2 ∧ cw2 = cw2 ∧ cv2 = cv2 ∧ k2 = k2 ∧ True ∧ x2 = x2 ∧ y2 = y2 ∧
 z2 = z2 ∧ w2 = w2 ∧ (True ∧ n2 = n2) ∧ True) ∧ True ∧ (2 * n2 ≤ 2 * n2 ∧ ∀ (i : Nat), i < 2 * n2 → g2 i = g2 i) ∧ True) ∧ ∀ (i : Nat), i ≤ nsg cl2 n2 (wz g2) ∧ ((false = false ∧
 emp cl2 n2 = false ∧ mt4 a b c d x2 y2 z2 w2 = true) ∧ fGt .f64 (arF x2 y2 z2 w2) (arF a b c d) = false) ∧ noneB (sIs
(rcG a b c d) 4 4 a b c d g2 n2 al) i → (decide ((↑i : Int) < (↑(nsg cl2 n2 (wz g2)) : Int)) = true → (2 * n2 = 2 * n2 ∧ 0 ≤ (↑i : Int) ∧ (↑i : Int) < (↑n2
: Int) ∧ n2 ≤ 1000000) ∧ ((W1 a ∧ W1 b ∧ W1 c ∧ W1 d) ∧ W1 (g2 (2 * Int.toNat (↑i : Int))) ∧ W1 (g2 (2 * Int.toNat (↑i
: Int) + 1)) ∧ W1 (g2 (2 * nx n2 (Int.toNat (↑i : Int)))) ∧ W1 (g2 (2 * nx n2 (Int.toNat (↑i : Int)) + 1))) ∧ (ris
(rcG a b c d) 4 4 a b c d (g2 (2 * Int.toNat (↑i : Int))) (g2 (2 * Int.toNat (↑i : Int) + 1)) (g2 (2 * nx n2 (Int.toNat (↑i : Int)))) (g2 (2 *
 nx n2 (Int.toNat (↑i : Int)) + 1)) al = true → rirB false (emp cl2 n2) (mt4 a b c d x2 y2 z2 w2) (fGt .f64 (arF x2 y2 z2 w2)
(arF a b c d)) (anyB (sIs g2 n2 (nsg cl2 n2 (wz g2)) x2 y2 z2 w2 (rcG a b c d) 4 al) 4) (anyB
(sIs (rcG a b c d) 4 4 a b c d g2 n2 al) (nsg cl2 n2 (wz g2))) = true ∧ True) ∧ (ris (rcG a b c d) 4 4 a b c d
(g2 (2 * Int.toNat (↑i : Int))) (g2 (2 * Int.toNat (↑i : Int) + 1)) (g2 (2 * nx n2 (Int.toNat (↑i : Int)))) (g2 (2 * nx n2 (Int.toNat (↑i : Int)) + 1)) al = false → ∃
(i' : Nat), (i' ≤ nsg cl2 n2 (wz g2) ∧ ((false = false ∧ emp cl2 n2 = false ∧ mt4 a b c d x2 y2 z2 w2 = true) ∧ fGt .f64 (arF x2 y2 z2 w2)
(arF a b c d) = false) ∧ noneB (sIs (rcG a b c d) 4 4 a b c d g2 n2 al) i') ∧ nsg cl2 n2 (wz g2) - i' < nsg
 cl2 n2 (wz g2) - i ∧ ((a = a ∧ b = b ∧ c = c ∧ d = d ∧ True) ∧ (True ∧ 0 = 0) ∧ al = al ∧ (↑(nsg cl2 n2 (wz g2)) : Int) = (↑(nsg cl2 n2 (wz g2))
: Int) ∧ Go.IntKind.wrap .i64 ((↑i : Int) + 1) = (↑i' : Int) ∧ True) ∧ True ∧ (cl2 = cl2 ∧ cw2 = cw2 ∧ cv2 = cv2 ∧ k2 = k2 ∧ True ∧ x2 = x2 ∧ y2 = y2 ∧ z2 = z2 ∧ w2 = w2 ∧ (True ∧ n2 = n2) ∧ True) ∧ True ∧ (2 * n2 ≤ 2 * n2 ∧ ∀
(i : Nat), i < 2 * n2 → g2 i = g2 i) ∧ True)) ∧ (decide ((↑i : Int) < (↑(nsg cl2 n2 (wz g2)) : Int)) = false → rirB false (emp cl2 n2) (mt4 a b c d x2
 y2 z2 w2) (fGt .f64 (arF x2 y2 z2 w2) (arF a b c d)) (anyB (sIs g2 n2 (nsg cl2 n2 (wz g2)) x2 y2 z2 w2 (rcG a b c d)
4 al) 4) (anyB (sIs (rcG a b c d) 4 4 a b c d g2 n2 al) (nsg cl2 n2 (wz g2))) = false ∧ True)) ∨ ((∃ (i : Nat), (i ≤ 4 ∧
((false = false ∧ emp cl2 n2 = false ∧ mt4 a b c d x2 y2 z2 w2 = true) ∧ fGt .f64 (arF x2 y2 z2 w2) (arF a b c d) = true) ∧ noneB (sIs
 g2 n2 (nsg cl2 n2 (wz g2)) x2 y2 z2 w2 (rcG a b c d) 4 al) i) ∧ ((True ∧ 0 = 0) ∧ (a = a ∧ b = b ∧ c = c ∧ d = d ∧ True) ∧ al = al ∧ (4 : Int) = 4 ∧ 0 = (↑i
: Int) ∧ True) ∧ True ∧ (cl2 = cl2 ∧ cw2 = cw2 ∧ cv2 = cv2 ∧ k2 = k2 ∧ True ∧ x2 = x2 ∧ y2 = y2 ∧ z2 = z2 ∧ w2 = w2 ∧ (True ∧ n2 = n2) ∧ True) ∧ True ∧ (2 * n2 ≤ 2 * n2 ∧ ∀ (i : Nat), i < 2 * n2 → g2 i = g2 i) ∧ True) ∧ ∀ (i :
 Nat), i ≤ 4 ∧ ((false = false ∧ emp cl2 n2 = false ∧ mt4 a b c d x2 y2 z2 w2 = true) ∧ fGt .f64 (arF x2 y2 z2 w2) (arF a b c d) = true) ∧ noneB
(sIs g2 n2 (nsg cl2 n2 (wz g2)) x2 y2 z2 w2 (rcG a b c d) 4 al) i → (decide ((↑i : Int) < 4) = true → (0 ≤ (↑i : Int) ∧ (↑i : Int) ≤ 3) ∧ (2 * n2 = 2 * n2 ∧ n2 ≤ 1000000 ∧ SmF g2 (2 * n2) ∧ W1 ((ptAt a b c d (↑i : Int)).1) ∧ W1 ((ptAt a b c d (↑i : Int)).2)
∧ W1 ((ptAt a b c d ((↑i : Int) + 1)).1) ∧ W1 ((ptAt a b c d ((↑i : Int) + 1)).2)) ∧ (ris g2 n2 (nsg cl2 n2
(wz g2)) x2 y2 z2 w2 ((ptAt a b c d (↑i : Int)).1) ((ptAt a b c d (↑i : Int)).2) ((ptAt a b c d ((↑i : Int) + 1)).1) (Prod.snd
(ptAt a b c d ((↑i : Int) + 1))) al = true → rirB false (emp cl2 n2) (mt4 a b c d x2 y2 z2 w2) (fGt .f64 (arF x2 y2 z2 w2) (arF
 a b c d)) (anyB (sIs g2 n2 (nsg cl2 n2 (wz g2)) x2 y2 z2 w2 (rcG a b c d) 4 al) 4) (anyB (sIs
(rcG a b c d) 4 4 a b c d g2 n2 al) (nsg cl2 n2 (wz g2))) = true ∧ True) ∧ (ris g2 n2 (nsg cl2 n2 (wz g2)) x2 y2 z2 w2
((ptAt a b c d (↑i : Int)).1) ((ptAt a b c d (↑i : Int)).2) ((ptAt a b c d ((↑i : Int) + 1)).1) ((ptAt a b c d ((↑i : Int) + 1)).2) al
= false → ∃ (i' : Nat), (i' ≤ 4 ∧ ((false = false ∧ emp cl2 n2 = false ∧ mt4 a b c d x2 y2 z2 w2 = true) ∧ fGt .f64 (arF x2 y2 z2 w2) (arF a b c d) = true) ∧
 noneB (sIs g2 n2 (nsg cl2 n2 (wz g2)) x2 y2 z2 w2 (rcG a b c d) 4 al) i') ∧ 4 - i' < 4 - i ∧ ((True ∧ 0 = 0) ∧ (a = a ∧
 b = b ∧ c = c ∧ d = d ∧ True) ∧ al = al ∧ (4 : Int) = 4 ∧ Go.IntKind.wrap .i64 ((↑i : Int) + 1) = (↑i' : Int) ∧ True) ∧ True ∧ (cl2 = cl2 ∧ cw2 = cw2 ∧ cv2 = cv2 ∧ k2 = k2 ∧ True ∧ x2 = x2 ∧ y2 = y2 ∧ z2 = z2 ∧ w2 = w2 ∧ (True ∧ n2 =
 n2) ∧ True) ∧ True ∧ (2 * n2 ≤ 2 * n2 ∧ ∀ (i : Nat), i < 2 * n2 → g2 i = g2 i) ∧ True)) ∧ (decide ((↑i : Int) < 4) = false → rirB false (emp cl2 n2) (mt4 a b c d x2
 y2 z2 w2) (fGt .f64 (arF x2 y2 z2 w2) (arF a b c d)) (anyB (sIs g2 n2 (nsg cl2 n2 (wz g2)) x2 y2 z2 w2 (rcG a b c d)
4 al) 4) (anyB (sIs (rcG a b c d) 4 4 a b c d g2 n2 al) (nsg cl2 n2 (wz g2))) = false ∧ True)) ∨ False) ∧ (fGt .f64
(fop BinOp.mul .f64 (fop BinOp.sub .f64 z2 x2) (fop BinOp.sub .f64 w2 y2)) (fop BinOp.mul .f64 (fop BinOp.sub .f64 c a) (fop BinOp.sub .f64 d b)) = false → (2 * n2 = 2 * n2 ∧ n2 ≤ 1000000 ∧
 SmF g2 (2 * n2)) ∧ (((∃ (i : Nat), (i ≤ nsg cl2 n2 (wz g2) ∧ ((false = false ∧ emp cl2 n2 = false ∧ mt4 a b c d x2 y2 z2 w2 = true) ∧ fGt .f64
(arF x2 y2 z2 w2) (arF a b c d) = false) ∧ noneB (sIs (rcG a b c d) 4 4 a b c d g2 n2 al) i) ∧ ((a = a ∧ b = b ∧ c = c ∧ d = d ∧ True) ∧ (True ∧
0 = 0) ∧ al = al ∧ (↑(nsg cl2 n2 (wz g2)) : Int) = (↑(nsg cl2 n2 (wz g2)) : Int) ∧ 0 = (↑i : Int) ∧ True) ∧ True ∧ (cl2 = cl2 ∧ cw2 = cw2 ∧ cv2 = cv2 ∧ k2
= k2 ∧ True ∧ x2 = x2 ∧ y2 = y2 ∧ z2 = z2 ∧ w2 = w2 ∧ (True ∧ n2 = n2) ∧ True) ∧ True ∧ (2 * n2 ≤ 2 * n2 ∧ ∀ (i : Nat), i < 2 * n2 → g2 i = g2 i) ∧ True) ∧ ∀ (i : Nat), i ≤ nsg cl2 n2 (wz
 g2) ∧ ((false = false ∧ emp cl2 n2 = false ∧ mt4 a b c d x2 y2 z2 w2 = true) ∧ fGt .f64 (arF x2 y2 z2 w2) (arF a b c d) = false) ∧ noneB
(sIs (rcG a b c d) 4 4 a b c d g2 n2 al) i → (decide ((↑i : Int) < (↑(nsg cl2 n2 (wz g2)) : Int)) = true → (2 * n2 = 2 * n2 ∧ 0 ≤ (↑i :
 Int) ∧ (↑i : Int) < (↑n2 : Int) ∧ n2 ≤ 1000000) ∧ ((W1 a ∧ W1 b ∧ W1 c ∧ W1 d) ∧ W1 (g2 (2 * Int.toNat (↑i : Int))) ∧ W1 (g2
(2 * Int.toNat (↑i : Int) + 1)) ∧ W1 (g2 (2 * nx n2 (Int.toNat (↑i : Int)))) ∧ W1 (g2 (2 * nx n2 (Int.toNat (↑i : Int)) + 1))) ∧
(ris (rcG a b c d) 4 4 a b c d (g2 (2 * Int.toNat (↑i : Int))) (g2 (2 * Int.toNat (↑i : Int) + 1)) (g2 (2 * nx n2 (Int.toNat (↑i : Int)))) (g2 (2 * nx n2 (Int.toNat (↑i : Int)) + 1)) al = true → rirB false (emp cl2 n2) (mt4 a b c d x2 y2 z2 w2) (fGt .f64 (arF x2 y2 z2 w2)
(arF a b c d)) (anyB (sIs g2 n2 (nsg cl2 n2 (wz g2)) x2 y2 z2 w2 (rcG a b c d) 4 al) 4) (anyB
(sIs (rcG a b c d) 4 4 a b c d g2 n2 al) (nsg cl2 n2 (wz g2))) = true ∧ True) ∧ (ris (rcG a b c d) 4 4 a b c d
(g2 (2 * Int.toNat (↑i : Int))) (g2 (2 * Int.toNat (↑i : Int) + 1)) (g2 (2 * nx n2 (Int.toNat (↑i : Int)))) (g2 (2 * nx n2 (Int.toNat (↑i : Int)) + 1)) al = false → ∃
(i' : Nat), (i' ≤ nsg cl2 n2 (wz g2) ∧ ((false = false ∧ emp cl2 n2 = false ∧ mt4 a b c d x2 y2 z2 w2 = true) ∧ fGt .f64 (arF x2 y2 z2 w2)
(arF a b c d) = false) ∧ noneB (sIs (rcG a b c d) 4 4 a b c d g2 n2 al) i') ∧ nsg cl2 n2 (wz g2) - i' < nsg
 cl2 n2 (wz g2) - i ∧ ((a = a ∧ b = b ∧ c = c ∧ d = d ∧ True) ∧ (True ∧ 0 = 0) ∧ al = al ∧ (↑(nsg cl2 n2 (wz g2)) : Int) = (↑(nsg cl2 n2 (wz g2))
: Int) ∧ Go.IntKind.wrap .i64 ((↑i : Int) + 1) = (↑i' : Int) ∧ True) ∧ True ∧ (cl2 = cl2 ∧ cw2 = cw2 ∧ cv2 = cv2 ∧ k2 = k2 ∧ True ∧ x2 = x2 ∧ y2 = y2 ∧ z2 = z2 ∧ w2 = w2 ∧ (True ∧ n2 = n2) ∧ True) ∧ True ∧ (2 * n2 ≤ 2 * n2 ∧ ∀
(i : Nat), i < 2 * n2 → g2 i = g2 i) ∧ True)) ∧ (decide ((↑i : Int) < (↑(nsg cl2 n2 (wz g2)) : Int)) = false → rirB false (emp cl2 n2) (mt4 a b c d x2
 y2 z2 w2) (fGt .f64 (arF x2 y2 z2 w2) (arF a b c d)) (anyB (sIs g2 n2 (nsg cl2 n2 (wz g2)) x2 y2 z2 w2 (rcG a b c d)
4 al) 4) (anyB (sIs (rcG a b c d) 4 4 a b c d g2 n2 al) (nsg cl2 n2 (wz g2))) = false ∧ True)) ∨ ((∃ (i : Nat), (i ≤ 4 ∧
((false = false ∧ emp cl2 n2 = false ∧ mt4 a b c d x2 y2 z2 w2 = true) ∧ fGt .f64 (arF x2 y2 z2 w2) (arF a b c d) = true) ∧ noneB (sIs
 g2 n2 (nsg cl2 n2 (wz g2)) x2 y2 z2 w2 (rcG a b c d) 4 al) i) ∧ (False ∧ False ∧ al = al ∧ (↑(nsg cl2 n2 (wz g2)) : Int) = 4 ∧ 0 = (↑i :
 Int) ∧ True) ∧ True ∧ (cl2 = cl2 ∧ cw2 = cw2 ∧ cv2 = cv2 ∧ k2 = k2 ∧ True ∧ x2 = x2 ∧ y2 = y2 ∧ z2 = z2 ∧ w2 = w2 ∧ (True ∧ n2 = n2) ∧ True) ∧ True ∧ (2 * n2 ≤ 2 * n2 ∧ ∀ (i : Nat), i < 2 * n2 → g2 i = g2 i) ∧ True) ∧ ∀ (i :
 Nat), i ≤ 4 ∧ ((false = false ∧ emp cl2 n2 = false ∧ mt4 a b c d x2 y2 z2 w2 = true) ∧ fGt .f64 (arF x2 y2 z2 w2) (arF a b c d) = true) ∧ noneB
(sIs g2 n2 (nsg cl2 n2 (wz g2)) x2 y2 z2 w2 (rcG a b c d) 4 al) i → (decide ((↑i : Int) < 4) = true → (0 ≤ (↑i : Int) ∧ (↑i : Int) ≤ 3) ∧ (2 * n2 = 2 * n2 ∧ n2 ≤ 1000000 ∧ SmF g2 (2 * n2) ∧ W1 ((ptAt a b c d (↑i : Int)).1) ∧ W1 ((ptAt a b c d (↑i : Int)).2)
∧ W1 ((ptAt a b c d ((↑i : Int) + 1)).1) ∧ W1 ((ptAt a b c d ((↑i : Int) + 1)).2)) ∧ (ris g2 n2 (nsg cl2 n2
(wz g2)) x2 y2 z2 w2 ((ptAt a b c d (↑i : Int)).1) ((ptAt a b c d (↑i : Int)).2) ((ptAt a b c d ((↑i : Int) + 1)).1) (Prod.snd
(ptAt a b c d ((↑i : Int) + 1))) al = true → rirB false (emp cl2 n2) (mt4 a b c d x2 y2 z2 w2) (fGt .f64 (arF x2 y2 z2 w2) (arF
 a b c d)) (anyB (sIs g2 n2 (nsg cl2 n2 (wz g2)) x2 y2 z2 w2 (rcG a b c d) 4 al) 4) (anyB (sIs
(rcG a b c d) 4 4 a b c d g2 n2 al) (nsg cl2 n2 (wz g2))) = true ∧ True) ∧ (ris g2 n2 (nsg cl2 n2 (wz g2)) x2 y2 z2 w2
((ptAt a b c d (↑i : Int)).1) ((ptAt a b c d (↑i : Int)).2) ((ptAt a b c d ((↑i : Int) + 1)).1) ((ptAt a b c d ((↑i : Int) + 1)).2) al
= false → ∃ (i' : Nat), (i' ≤ 4 ∧ ((false = false ∧ emp cl2 n2 = false ∧ mt4 a b c d x2 y2 z2 w2 = true) ∧ fGt .f64 (arF x2 y2 z2 w2) (arF a b c d) = true) ∧
 noneB (sIs g2 n2 (nsg cl2 n2 (wz g2)) x2 y2 z2 w2 (rcG a b c d) 4 al) i') ∧ 4 - i' < 4 - i ∧ ((True ∧ 0 = 0) ∧ (a = a ∧
 b = b ∧ c = c ∧ d = d ∧ True) ∧ al = al ∧ (4 : Int) = 4 ∧ Go.IntKind.wrap .i64 ((↑i : Int) + 1) = (↑i' : Int) ∧ True) ∧ True ∧ (cl2 = cl2 ∧ cw2 = cw2 ∧ cv2 = cv2 ∧ k2 = k2 ∧ True ∧ x2 = x2 ∧ y2 = y2 ∧ z2 = z2 ∧ w2 = w2 ∧ (True ∧ n2 =
 n2) ∧ True) ∧ True ∧ (2 * n2 ≤ 2 * n2 ∧ ∀ (i : Nat), i < 2 * n2 → g2 i = g2 i) ∧ True)) ∧ (decide ((↑i : Int) < 4) = false → rirB false (emp cl2 n2) (mt4 a b c d x2
 y2 z2 w2) (fGt .f64 (arF x2 y2 z2 w2) (arF a b c d)) (anyB (sIs g2 n2 (nsg cl2 n2 (wz g2)) x2 y2 z2 w2 (rcG a b c d)
4 al) 4) (anyB (sIs (rcG a b c d) 4 4 a b c d g2 n2 al) (nsg cl2 n2 (wz g2))) = false ∧ True)) ∨ False))))) := by kernel_rfl
theorem rirRS : ConOk Tryz.prog 212 (conR rirRSC) := by
 refine con_of_vc girS Tryz.func212 rfl (by kernel_rfl) fun args => ?_
 unfold rirRSC
 split
 · rename_i a b c d s2 v
   intro o0
   show RdM.All _ (match serOf o0.c with | some (cl2, cw2, cv2, k2, x2, y2, z2, w2, q2, n2) => _ | none => _) _
   split
   · rename_i cl2 cw2 cv2 k2 x2 y2 z2 w2 q2 n2 hm0
     intro o1
     show RdM.All _ (match fltsFrom .f64 o1.c with | some (m, g) => _ | none => _) _
     split
     · rename_i m1 g2 hm1
       show RdM.All _ (match v.toB with | some b => _ | none => _) _
       split
       · rename_i al hal
         intro ho
         replace ho : m1 = 2 * n2 ∧ (True ∧ (W1 a ∧ W1 b ∧ W1 c ∧ W1 d)) ∧ ((n2 ≤ 1000000 ∧ SmF g2 (2 * n2)) ∧ (W1 x2 ∧ W1 y2 ∧ W1 z2 ∧ W1 w2)) := ho
         obtain ⟨hsz1, ho⟩ := ho
         subst hsz1
         refine ⟨?_, _, _, (vc_rirRS a b c d cl2 cw2 cv2 k2 x2 y2 z2 w2 q2 n2 al g2).mpr ?_⟩
         · refine okFlag_mk rfl ⟨?_, ⟨trivial, serOf_spec hm0 (by simp [sgSig, fsts, nth, sameN_self]), ⟨trivial, (contR_flts hm1).1, trivial⟩⟩⟩
           simp [eqvRL, eqvR, fkEq_self, sgSig, fsts, nth, sameN_self, toB_eqvR hal]
         · obtain ⟨⟨_, hA1, hA2, hA3, hA4⟩, ⟨⟨hn2, hg2⟩, hB1, hB2, hB3, hB4⟩⟩ := ho
           have ar1 := (ar_ok hA1 hA2 hA3 hA4).1
           have ar2 := (ar_ok hB1 hB2 hB3 hB4).1
           have em : (!fGt .f64 b w2 && !fLt .f64 d y2 && !fGt .f64 a z2 && !fLt .f64 c x2) = mt4 a b c d x2 y2 z2 w2 := rfl
           have eg : fGt .f64 (fop .mul .f64 (fop .sub .f64 z2 x2) (fop .sub .f64 w2 y2)) (fop .mul .f64 (fop .sub .f64 c a) (fop .sub .f64 d b)) = (fGt .f64 (arF x2 y2 z2 w2) (arF a b c d)) := rfl
           have eB : decide (n2 < 2 ∨ cl2 = true ∧ n2 < 3) = emp cl2 n2 := rfl
           have hg := sm_rcG hA1 hA2 hA3 hA4
           have hns : 4 ≤ 4 := Nat.le_refl 4
           have hns2 := nsg_le cl2 n2 (wz g2)
           generalize nsg cl2 n2 (wz g2) = N2 at *
           simp only [true_and, and_true, eq_self, Nat.le_refl, implies_true, false_and, and_false, exists_false, or_false, false_or, em, eg, Int.toNat_natCast, eB]
           refine ⟨fun q' => ?_, fun q' => ⟨fun m2 => ?_, fun m2 => ⟨ar2, ar1, fun hgt => ⟨⟨0, ⟨by omega, ⟨⟨q', by simpa using m2⟩, hgt⟩, fun j hj => by omega⟩, rfl⟩, fun i hi => ⟨fun h => ?_, fun h => ?_⟩⟩, fun hgt => ⟨⟨hn2, hg2⟩, ⟨⟨0, ⟨by omega, ⟨⟨q', by simpa using m2⟩, hgt⟩, fun j hj => by omega⟩, rfl⟩, fun i hi => ⟨fun h => ?_, fun h => ?_⟩⟩⟩⟩⟩⟩
           · unfold rirB; rw [q']; rfl
           · unfold rirB; rw [show mt4 a b c d x2 y2 z2 w2 = false by simpa using m2]; simp
           · have h := of_decide_eq_true h
             have hiM : i < 4 := by omega
             have hw : IntKind.i64.wrap ((i : Int) + 1) = ((i + 1 : Nat) : Int) := by rw [wrap64 (by omega) (by omega)]; omega
             have n1 := nx_lt (show i < 4 by omega)
             rw [hw]
             obtain ⟨e1, e2, e3, e4⟩ := pt_rcG a b c d hiM
             rw [e1, e2, e3, e4]
             refine ⟨⟨by omega, by omega⟩, ⟨hn2, hg2, hg _ (by omega), hg _ (by omega), hg _ (by omega), hg _ (by omega)⟩, fun q3 => ?_, fun q3 => ⟨i + 1, ⟨by omega, hi.2.1, ?_⟩, by omega, rfl⟩⟩
             · unfold rirB
               rw [q', show mt4 a b c d x2 y2 z2 w2 = true by simpa using m2, if_pos hgt, anyB_of (p := sIs g2 n2 N2 x2 y2 z2 w2 (rcG a b c d) 4 al) hiM q3]
               rfl
             · intro j hj
               by_cases e : j = i
               · subst e; exact q3
               · exact hi.2.2 j (by omega)
           · have h := of_decide_eq_false h
             have hi4 : i = 4 := by omega
             subst hi4
             unfold rirB
             rw [q', show mt4 a b c d x2 y2 z2 w2 = true by simpa using m2, if_pos hgt, anyB_not (p := sIs g2 n2 N2 x2 y2 z2 w2 (rcG a b c d) 4 al) hi.2.2]
             rfl
           · have h := of_decide_eq_true h
             have hiM : i < N2 := by omega
             have hw : IntKind.i64.wrap ((i : Int) + 1) = ((i + 1 : Nat) : Int) := by rw [wrap64 (by omega) (by omega)]; omega
             have n1 := nx_lt (show i < n2 by omega)
             rw [hw]
             refine ⟨⟨by omega, by omega, hn2⟩, ⟨⟨hA1, hA2, hA3, hA4⟩, hg2 _ (by omega), hg2 _ (by omega), hg2 _ (by omega), hg2 _ (by omega)⟩, fun q3 => ?_, fun q3 => ⟨i + 1, ⟨by omega, hi.2.1, ?_⟩, by omega, rfl⟩⟩
             · unfold rirB
               rw [q', show mt4 a b c d x2 y2 z2 w2 = true by simpa using m2, if_neg (by simp [hgt]), anyB_of (p := sIs (rcG a b c d) 4 4 a b c d g2 n2 al) hiM q3]
               rfl
             · intro j hj
               by_cases e : j = i
               · subst e; exact q3
               · exact hi.2.2 j (by omega)
           · have h := of_decide_eq_false h
             have : i = N2 := by omega
             subst this
             unfold rirB
             rw [q', show mt4 a b c d x2 y2 z2 w2 = true by simpa using m2, if_neg (by simp [hgt]), anyB_not (p := sIs (rcG a b c d) 4 4 a b c d g2 n2 al) hi.2.2]
             rfl
       · trivial
     · trivial
   · trivial
 · trivial
noncomputable def rirSRC : List SV → RdM
 | [.ifc 157 (.ptr s 0), .ifc 102 (.agg [.flt .f64 a2, .flt .f64 b2, .flt .f64 c2, .flt .f64 d2]), v] => .read s fun o0 => (match serOf o0.c with
   | some (cl, cw, cv, k, x, y, z, w, p, n) => .read p fun o1 => (match fltsFrom .f64 o1.c with
   | some (m1, g) => (match v.toB with
   | some al => .ret ⟨[.ifc 157 (.ptr 0 0), .ifc 102 (.agg [.flt .f64 a2, .flt .f64 b2, .flt .f64 c2, .flt .f64 d2]), .bool al], [(0, ⟨false, 150, serC cl cw cv k x y z w 1 n, 0⟩), (1, ⟨false, 100, .flts .f64 m1 g, 0⟩)], .bool (rirB (emp cl n) false (mt4 x y z w a2 b2 c2 d2) (fGt .f64 (arF a2 b2 c2 d2) (arF x y z w)) (anyB (sIs (rcG a2 b2 c2 d2) 4 4 a2 b2 c2 d2 g n al) (nsg cl n (wz g))) (anyB (sIs g n (nsg cl n (wz g)) x y z w (rcG a2 b2 c2 d2) 4 al) 4)), [], [], some (m1 = 2 * n ∧ ((n ≤ 1000000 ∧ SmF g (2 * n)) ∧ (W1 x ∧ W1 y ∧ W1 z ∧ W1 w)) ∧ (True ∧ (W1 a2 ∧ W1 b2 ∧ W1 c2 ∧ W1 d2)))⟩
   | none => .fail)
   | none => .fail)
   | none => .fail)
 | _ => .fail
theorem vc_rirSR (cl cw cv : Bool) (k : Int) (x y z w : Nat) (_ : Nm) (n : Nat) (a2 b2 c2 d2 : Nat) (al : Bool)  (g : Nat → Nat) : runA GirS 2 [(9, .alt [ri9 43 (HS1 cl cw cv k x y z w n g) (.ifc 157 (.ptr 0 0)) (.ifc 102 (.agg [.flt .f64 a2, .flt .f64 b2, .flt .f64 c2, .flt .f64 d2])) al 2 4 4 (fun i => (((emp cl n) = false ∧ false = false ∧ mt4 x y z w a2 b2 c2 d2 = true) ∧ (fGt .f64 (arF a2 b2 c2 d2) (arF x y z w)) = false) ∧ noneB (sIs g n (nsg cl n (wz g)) x y z w (rcG a2 b2 c2 d2) 4 al) i), ri9 43 (HS1 cl cw cv k x y z w n g) (.ifc 102 (.agg [.flt .f64 a2, .flt .f64 b2, .flt .f64 c2, .flt .f64 d2])) (.ifc 157 (.ptr 0 0)) al 2 (nsg cl n (wz g)) (nsg cl n (wz g)) (fun i => (((emp cl n) = false ∧ false = false ∧ mt4 x y z w a2 b2 c2 d2 = true) ∧ (fGt .f64 (arF a2 b2 c2 d2) (arF x y z w)) = true) ∧ noneB (sIs (rcG a2 b2 c2 d2) 4 4 a2 b2 c2 d2 g n al) i)])] [] (codeOf Tryz.f212) (init Tryz.f212.ntmps [.ifc 157 (.ptr 0 0), .ifc 102 (.agg [.flt .f64 a2, .flt .f64 b2, .flt .f64 c2, .flt .f64 d2]), .bool al] [(0, ⟨false, 150, serC cl cw cv k x y z w 1 n, 0⟩), (1, ⟨false, 100, .flts .f64 (2 * n) g, 0⟩)] 2) (endK GirS.E.T Tryz.f212.results.toList fun S v => postP 2 ⟨[.ifc 157 (.ptr 0 0), .ifc 102 (.agg [.flt .f64 a2, .flt .f64 b2, .flt .f64 c2, .flt .f64 d2]), .bool al], [(0, ⟨false, 150, serC cl cw cv k x y z w 1 n, 0⟩), (1, ⟨false, 100, .flts .f64 (2 * n) g, 0⟩)], .bool (rirB (emp cl n) false (mt4 x y z w a2 b2 c2 d2) (fGt .f64 (arF a2 b2 c2 d2) (arF x y z w)) (anyB (sIs (rcG a2 b2 c2 d2) 4 4 a2 b2 c2 d2 g n al) (nsg cl n (wz g))) (anyB (sIs g n (nsg cl n (wz g)) x y z w (rcG a2 b2 c2 d2) 4 al) 4)), [], [], some (2 * n = 2 * n ∧ ((n ≤ 1000000 ∧ SmF g (2 * n)) ∧ (W1 x ∧ W1 y ∧ W1 z ∧ W1 w)) ∧ (True ∧ (W1 a2 ∧ W1 b2 ∧ W1 c2 ∧ W1 d2)))⟩ S v) = (
(2 * n = 2 * n ∧ True) ∧ (decide (n < 2 ∨ cl = true ∧ n < 3) = true → rirB (emp cl n) false (mt4 x y z w a2 b2 c2 d2) (fGt .f64 (arF a2 b2
 c2 d2) (arF x y z w)) (anyB (sIs (rcG a2 b2 c2 d2) 4 4 a2 b2 c2 d2 g n al) (nsg cl n (wz g))) (anyB
(sIs g n (nsg cl n (wz g)) x y z w (rcG a2 b2 c2 d2) 4 al) 4) = false ∧ True) ∧ (decide (n < 2 ∨ cl = true ∧ n < 3) = false → (2 * n = 2 * n ∧ True) ∧ ((!(!fGt .f64 y d2 && !fLt .f64 w b2 && !fGt .f64 x c2 && !fLt .f64 z a2)) = true → rirB (emp cl n) false (mt4 x y z w a2 b2 c2 d2) (fGt .f64
(arF a2 b2 c2 d2) (arF x y z w)) (anyB (sIs (rcG a2 b2 c2 d2) 4 4 a2 b2 c2 d2 g n al) (nsg cl n (wz g)))
(anyB (sIs g n (nsg cl n (wz g)) x y z w (rcG a2 b2 c2 d2) 4 al) 4) = false ∧ True) ∧ ((!(!fGt .f64 y d2 && !fLt .f64 w b2 &&
!fGt .f64 x c2 && !fLt .f64 z a2)) = false → (fok BinOp.sub .f64 c2 a2 ∧ fok BinOp.sub .f64 d2 b2 ∧ fok BinOp.mul .f64 (fop BinOp.sub .f64 c2 a2) (fop BinOp.sub .f64 d2 b2)) ∧ (2 * n = 2 * n ∧
 True) ∧ (fok BinOp.sub .f64 z x ∧ fok BinOp.sub .f64 w y ∧ fok BinOp.mul .f64 (fop BinOp.sub .f64 z x) (fop BinOp.sub .f64 w y)) ∧ (fGt .f64 (fop BinOp.mul .f64 (fop BinOp.sub .f64 c2 a2) (fop
 BinOp.sub .f64 d2 b2)) (fop BinOp.mul .f64 (fop BinOp.sub .f64 z x) (fop BinOp.sub .f64 w y)) = true → (2 * n = 2 * n ∧ n ≤ 1000000 ∧ SmF g (2 * n)) ∧ (((∃ (i : Nat), (i ≤ 4
∧ ((emp cl n = false ∧ false = false ∧ mt4 x y z w a2 b2 c2 d2 = true) ∧ fGt .f64 (arF a2 b2 c2 d2) (arF x y z w) = false) ∧ noneB (sIs
 g n (nsg cl n (wz g)) x y z w (rcG a2 b2 c2 d2) 4 al) i) ∧ (False ∧ False ∧ al = al ∧ (↑(nsg cl n (wz g)) : Int) = 4 ∧ 0 = (↑i : Int) ∧
 True) ∧ True ∧ (cl = cl ∧ cw = cw ∧ cv = cv ∧ k = k ∧ True ∧ x = x ∧ y = y ∧ z = z ∧ w = w ∧ (True ∧ n = n) ∧ True) ∧ True ∧ (2 * n ≤ 2 * n ∧ ∀ (i : Nat), i < 2 * n → g i = g i) ∧ True) ∧ ∀ (i : Nat), i ≤ 4 ∧
((emp cl n = false ∧ false = false ∧ mt4 x y z w a2 b2 c2 d2 = true) ∧ fGt .f64 (arF a2 b2 c2 d2) (arF x y z w) = false) ∧ noneB (sIs g
 n (nsg cl n (wz g)) x y z w (rcG a2 b2 c2 d2) 4 al) i → (decide ((↑i : Int) < 4) = true → (0 ≤ (↑i : Int) ∧ (↑i : Int) ≤ 3) ∧ (2 * n = 2 * n ∧ n ≤
1000000 ∧ SmF g (2 * n) ∧ W1 ((ptAt a2 b2 c2 d2 (↑i : Int)).1) ∧ W1 ((ptAt a2 b2 c2 d2 (↑i : Int)).2) ∧ W1
((ptAt a2 b2 c2 d2 ((↑i : Int) + 1)).1) ∧ W1 ((ptAt a2 b2 c2 d2 ((↑i : Int) + 1)).2)) ∧ (ris g n (nsg cl n (wz
 g)) x y z w ((ptAt a2 b2 c2 d2 (↑i : Int)).1) ((ptAt a2 b2 c2 d2 (↑i : Int)).2) ((ptAt a2 b2 c2 d2 ((↑i : Int) + 1)).1) ((ptAt a2 b2 c2 d2
((↑i : Int) + 1)).2) al = true → rirB (emp cl n) false (mt4 x y z w a2 b2 c2 d2) (fGt .f64 (arF a2 b2 c2 d2) (arF x y z w)) (anyB
(sIs (rcG a2 b2 c2 d2) 4 4 a2 b2 c2 d2 g n al) (nsg cl n (wz g))) (anyB (sIs g n (nsg cl n
(wz g)) x y z w (rcG a2 b2 c2 d2) 4 al) 4) = true ∧ True) ∧ (ris g n (nsg cl n (wz g)) x y z w ((ptAt a2 b2 c2 d2 (↑i
: Int)).1) ((ptAt a2 b2 c2 d2 (↑i : Int)).2) ((ptAt a2 b2 c2 d2 ((↑i : Int) + 1)).1) ((ptAt a2 b2 c2 d2 ((↑i : Int) + 1)).2) al = false → ∃ (i' : Nat), (i' ≤ 4 ∧ ((emp cl n = false ∧ false = false ∧ mt4 x y z w a2 b2 c2 d2 = true) ∧ fGt .f64 (arF a2 b2 c2 d2) (arF x y z w) = false) ∧ noneB
(sIs g n (nsg cl n (wz g)) x y z w (rcG a2 b2 c2 d2) 4 al) i') ∧ 4 - i' < 4 - i ∧ ((True ∧ 0 = 0) ∧ (a2 = a2 ∧ b2 = b2 ∧ c2 = c2 ∧ d2 = d2
∧ True) ∧ al = al ∧ (4 : Int) = 4 ∧ Go.IntKind.wrap .i64 ((↑i : Int) + 1) = (↑i' : Int) ∧ True) ∧ True ∧ (cl = cl ∧ cw = cw ∧ cv = cv ∧ k = k ∧ True ∧ x = x ∧ y = y ∧ z = z ∧ w = w ∧ (True ∧ n = n) ∧ True) ∧ True ∧ (2 * n ≤ 2 * n ∧ ∀ (i : Nat), i < 2 * n → g i = g i) ∧ True)) ∧ (decide ((↑i : Int) < 4) = false → rirB (emp cl n) false (mt4 x y z w a2 b2 c2 d2) (fGt .f64
(arF a2 b2 c2 d2) (arF x y z w)) (anyB (sIs (rcG a2 b2 c2 d2) 4 4 a2 b2 c2 d2 g n al) (nsg cl n (wz g)))
(anyB (sIs g n (nsg cl n (wz g)) x y z w (rcG a2 b2 c2 d2) 4 al) 4) = false ∧ True)) ∨ ((∃ (i : Nat), (i ≤ nsg cl n
(wz g) ∧ ((emp cl n = false ∧ false = false ∧ mt4 x y z w a2 b2 c2 d2 = true) ∧ fGt .f64 (arF a2 b2 c2 d2) (arF x y z w) = true) ∧ noneB
(sIs (rcG a2 b2 c2 d2) 4 4 a2 b2 c2 d2 g n al) i) ∧ ((a2 = a2 ∧ b2 = b2 ∧ c2 = c2 ∧ d2 = d2 ∧ True) ∧ (True ∧ 0 = 0) ∧ al = al ∧ (↑(nsg cl n (wz
 g)) : Int) = (↑(nsg cl n (wz g)) : Int) ∧ 0 = (↑i : Int) ∧ True) ∧ True ∧ (cl = cl ∧ cw = cw ∧ cv = cv ∧ k = k ∧ True ∧ x = x ∧ y = y ∧ z = z ∧ w = w ∧ (True ∧ n = n) ∧ True) ∧ True ∧ (2 * n ≤ 2 * n ∧ ∀ (i : Nat), i < 2 * n → g i = g i) ∧ True) ∧ ∀ (i : Nat), i ≤ nsg cl n (wz g) ∧ ((emp cl n = false ∧ false = false ∧ mt4 x y z w a2 b2 c2 d2 = true) ∧
 fGt .f64 (arF a2 b2 c2 d2) (arF x y z w) = true) ∧ noneB (sIs (rcG a2 b2 c2 d2) 4 4 a2 b2 c2 d2 g n al) i → (decide ((↑i : Int) <
(↑(nsg cl n (wz g)) : Int)) = true → (2 * n = 2 * n ∧ 0 ≤ (↑i : Int) ∧ (↑i : Int) < (↑n : Int) ∧ n ≤ 1000000) ∧ ((W1 a2 ∧ W1 b2 ∧
 W1 c2 ∧ W1 d2) ∧ W1 (g (2 * Int.toNat (↑i : Int))) ∧ W1 (g (2 * Int.toNat (↑i : Int) + 1)) ∧ W1 (g (2 * nx n
(Int.toNat (↑i : Int)))) ∧ W1 (g (2 * nx n (Int.toNat (↑i : Int)) + 1))) ∧ (ris (rcG a2 b2 c2 d2) 4 4 a2 b2 c2 d2 (g (2 * Int.toNat (↑i :
 Int))) (g (2 * Int.toNat (↑i : Int) + 1)) (g (2 * nx n (Int.toNat (↑i : Int)))) (g (2 * nx n (Int.toNat (↑i : Int)) + 1)) al = true → rirB
(emp cl n) false (mt4 x y z w a2 b2 c2 d2) (fGt .f64 (arF a2 b2 c2 d2) (arF x y z w)) (anyB (sIs (rcG a2 b2 c2 d2) 4 4 a2 b2 c2 d2 g n al) (nsg cl n (wz g))) (anyB (sIs g n (nsg cl n (wz g)) x y z w (rcG a2 b2 c2 d2) 4
 al) 4) = true ∧ True) ∧ (ris (rcG a2 b2 c2 d2) 4 4 a2 b2 c2 d2 (g (2 * Int.toNat (↑i : Int))) (g (2 * Int.toNat (↑i : Int) + 1)) (g (2 * nx
 n (Int.toNat (↑i : Int)))) (g (2 * nx n (Int.toNat (↑i : Int)) + 1)) al = false → ∃ (i' : Nat), (i' ≤ nsg cl n (wz g) ∧ ((emp cl n = false ∧ false = false ∧
 mt4 x y z w a2 b2 c2 d2 = true) ∧ fGt .f64 (arF a2 b2 c2 d2) (arF x y z w) = true) ∧ noneB (sIs (rcG a2 b2 c2 d2) 4 4 a2
 b2 c2 d2 g n al) i') ∧ nsg cl n (wz g) - i' < nsg cl n (wz g) - i ∧ ((a2 = a2 ∧ b2 = b2 ∧ c2 = c2 ∧ d2 = d2 ∧ True) ∧ (True ∧ 0 = 0) ∧ al = al ∧
(↑(nsg cl n (wz g)) : Int) = (↑(nsg cl n (wz g)) : Int) ∧ Go.IntKind.wrap .i64 ((↑i : Int) + 1) = (↑i' : Int) ∧ True) ∧ True ∧ (cl = cl ∧ cw = cw ∧ cv = cv ∧ k = k ∧ True
∧ x = x ∧ y = y ∧ z = z ∧ w = w ∧ (True ∧ n = n) ∧ True) ∧ True ∧ (2 * n ≤ 2 * n ∧ ∀ (i : Nat), i < 2 * n → g i = g i) ∧ True)) ∧ (decide ((↑i : Int) < (↑(nsg cl n (wz g)) : Int)) = false →
 rirB (emp cl n) false (mt4 x y z w a2 b2 c2 d2) (fGt .f64 (arF a2 b2 c2 d2) (arF x y z w)) (anyB (sIs
(rcG a2 b2 c2 d2) 4 4 a2 b2 c2 d2 g n al) (nsg cl n (wz g))) (anyB (sIs g n (nsg cl n (wz g)) x y z w
(rcG a2 b2 c2 d2) 4 al) 4) = false ∧ True)) ∨ False)) ∧ (fGt .f64 (fop BinOp.mul .f64 (fop BinOp.sub .f64 c2 a2) (fop BinOp.sub .f64 d2 b2)) (fop BinOp.mul .f64 (fop BinOp.sub .f64
 z x) (fop BinOp.sub .f64 w y)) = false → ((∃ (i : Nat), (i ≤ 4 ∧ ((emp cl n = false ∧ false = false ∧ mt4 x y z w a2 b2 c2 d2 = true) ∧ fGt .f64 (arF a2 b2 c2 d2)
(arF x y z w) = false) ∧ noneB (sIs g n (nsg cl n (wz g)) x y z w (rcG a2 b2 c2 d2) 4 al) i) ∧ ((True ∧ 0 = 0) ∧ (a2 =
 a2 ∧ b2 = b2 ∧ c2 = c2 ∧ d2 = d2 ∧ True) ∧ al = al ∧ (4 : Int) = 4 ∧ 0 = (↑i : Int) ∧ True) ∧ True ∧ (cl = cl ∧ cw = cw ∧ cv = cv ∧ k = k ∧ True ∧ x = x ∧ y = y ∧ z = z ∧ w = w ∧ (True ∧ n = n) ∧ True) ∧ True ∧ (2 * n ≤ 2 * n ∧ ∀ (i : Nat), i < 2 * n → g i = g i) ∧ True) ∧ ∀ (i : Nat), i ≤ 4 ∧ ((emp cl n = false ∧ false = false ∧ mt4 x y z w a2 b2 c2 d2 = true) ∧ fGt .f64 (arF a2 b2 c2
 d2) (arF x y z w) = false) ∧ noneB (sIs g n (nsg cl n (wz g)) x y z w (rcG a2 b2 c2 d2) 4 al) i → (decide ((↑i : Int) < 4) =
 true → (0 ≤ (↑i : Int) ∧ (↑i : Int) ≤ 3) ∧ (2 * n = 2 * n ∧ n ≤ 1000000 ∧ SmF g (2 * n) ∧ W1 ((ptAt a2 b2 c2 d2 (↑i : Int)).1) ∧
 W1 ((ptAt a2 b2 c2 d2 (↑i : Int)).2) ∧ W1 ((ptAt a2 b2 c2 d2 ((↑i : Int) + 1)).1) ∧ W1 ((ptAt a2 b2 c2 d2 ((↑i
: Int) + 1)).2)) ∧ (ris g n (nsg cl n (wz g)) x y z w ((ptAt a2 b2 c2 d2 (↑i : Int)).1) ((ptAt a2 b2 c2 d2 (↑i : Int)).2) (Prod.fst
(ptAt a2 b2 c2 d2 ((↑i : Int) + 1))) ((ptAt a2 b2 c2 d2 ((↑i : Int) + 1)).2) al = true → rirB (emp cl n) false (mt4 x y z w a2 b2 c2 d2)
(fGt .f64 (arF a2 b2 c2 d2) (arF x y z w)) (anyB (sIs (rcG a2 b2 c2 d2) 4 4 a2 b2 c2 d2 g n al) (nsg cl n
(wz g))) (anyB (sIs g n (nsg cl n (wz g)) x y z w (rcG a2 b2 c2 d2) 4 al) 4) = true ∧ True) ∧ (ris g n
(nsg cl n (wz g)) x y z w ((ptAt a2 b2 c2 d2 (↑i : Int)).1) ((ptAt a2 b2 c2 d2 (↑i : Int)).2) ((ptAt a2 b2 c2 d2 ((↑i : Int) + (1 :
 Int))).1) ((ptAt a2 b2 c2 d2 ((↑i : Int) + 1)).2) al = false → ∃ (i' : Nat), (i' ≤ 4 ∧ ((emp cl n = false ∧ false = false ∧ mt4 x y z w a2 b2 c2 d2 = true) ∧ fGt .f64
(arF a2 b2 c2 d2) (arF x y z w) = false) ∧ noneB (sIs g n (nsg cl n (wz g)) x y z w (rcG a2 b2 c2 d2) 4 al) i') ∧ 4 - i' < 4 - i ∧ ((True ∧ 0 = 0) ∧ (a2 = a2 ∧ b2 = b2 ∧ c2 = c2 ∧ d2 = d2 ∧ True) ∧ al = al ∧ (4 : Int) = 4 ∧ Go.IntKind.wrap .i64 ((↑i : Int) + 1) = (↑i' : Int) ∧ True) ∧ True ∧ (cl = cl ∧ cw = cw ∧ cv =
 cv ∧ k = k ∧ True ∧ x = x ∧ y = y ∧ z = z ∧ w = w ∧ (True ∧ n = n) ∧ True) ∧ True ∧ (2 * n ≤ 2 * n ∧ ∀ (i : Nat), i < 2 * n → g i = g i) ∧ True)) ∧ (decide ((↑i : Int) < 4) = false → rirB
(emp cl n) false (mt4 x y z w a2 b2 c2 d2) (fGt .f64 (arF a2 b2 c2 d2) (arF x y z w)) (anyB (sIs (rcG a2 b2 c2 d2) 4 4 a2 b2 c2 d2 g n al) (nsg cl n (wz g))) (anyB (sIs g n (nsg cl n (wz g)) x y z w (rcG a2 b2 c2 d2) 4
 al) 4) = false ∧ True)) ∨ ((∃ (i : Nat), (i ≤ nsg cl n (wz g) ∧ ((emp cl n = false ∧ false = false ∧ mt4 x y z w a2 b2 c2 d2 = true) ∧ fGt .f64
(arF a2 b2 c2 d2) (arF x y z w) = true) ∧ noneB (sIs (rcG a2 b2 c2 d2) 4 4 a2 b2 c2 d2 g n al) i) ∧ (False ∧ False ∧ al = al ∧ (4 : Int) =
(↑(nsg cl n (wz g)) : Int) ∧ 0 = (↑i : Int) ∧ True) ∧ True ∧ (cl = cl ∧ cw = cw ∧ cv = cv ∧ k = k ∧ True ∧ x = x ∧ y = y ∧ z = z ∧ w = w ∧ (True ∧ n = n) ∧ True) ∧ True ∧ (2 * n ≤ 2 * n ∧ ∀
(i : Nat), i < 2 * n → g i = g i) ∧ True) ∧ ∀ (i : Nat), i ≤ nsg cl n (wz g) ∧ ((emp cl n = false ∧ false = false ∧ mt4 x y z w a2 b2 c2 d2 = true) ∧ fGt .f64
(arF a2 b2 c2 d2) (arF x y z w) = true) ∧ noneB (sIs (rcG a2 b2 c2 d2) 4 4 a2 b2 c2 d2 g n al) i → (decide ((↑i : Int) <
(↑(nsg cl n (wz g)) : Int)) = true → (2 * n = 2 * n ∧ 0 ≤ (↑i : Int) ∧ (↑i : Int) < (↑n : Int) ∧ n ≤ 1000000) ∧ ((W1 a2 ∧ W1 b2 ∧
 W1 c2 ∧ W1 d2) ∧ W1 (g (2 * Int.toNat (↑i : Int))) ∧ W1 (g (2 * Int.toNat (↑i : Int) + 1)) ∧ W1 (g (2 * nx n
(Int.toNat (↑i : Int)))) ∧ W1 (g (2 * nx n (Int.toNat (↑i : Int)) + 1))) ∧ (ris (rcG a2 b2 c2 d2) 4 4 a2 b2 c2 d2 (g (2 * Int.toNat (↑i :
 Int))) (g (2 * Int.toNat (↑i : Int) + 1)) (g (2 * nx n (Int.toNat (↑i : Int)))) (g (2 * nx n (Int.toNat (↑i : Int)) + 1)) al = true → rirB
(emp cl n) false (mt4 x y z w a2 b2 c2 d2) (fGt .f64 (arF a2 b2 c2 d2) (arF x y z w)) (anyB (sIs (rcG a2 b2 c2 d2) 4 4 a2 b2 c2 d2 g n al) (nsg cl n (wz g))) (anyB (sIs g n (nsg cl n (wz g)) x y z w (rcG a2 b2 c2 d2) 4
 al) 4) = true ∧ True) ∧ (ris (rcG a2 b2 c2 d2) 4 4 a2 b2 c2 d2 (g (2 * Int.toNat (↑i : Int))) (g (2 * Int.toNat (↑i : Int) + 1)) (g (2 * nx
 n (Int.toNat (↑i : Int)))) (g (2 * nx n (Int.toNat (↑i : Int)) + 1)) al = false → ∃ (i' : Nat), (i' ≤ nsg cl n (wz g) ∧ ((emp cl n = false ∧ false = false ∧
 mt4 x y z w a2 b2 c2 d2 = true) ∧ fGt .f64 (arF a2 b2 c2 d2) (arF x y z w) = true) ∧ noneB (sIs (rcG a2 b2 c2 d2) 4 4 a2
 b2 c2 d2 g n al) i') ∧ nsg cl n (wz g) - i' < nsg cl n (wz g) - i ∧ ((a2 = a2 ∧ b2 = b2 ∧ c2 = c2 ∧ d2 = d2 ∧ True) ∧ (True ∧ 0 = 0) ∧ al = al ∧
(↑(nsg cl n (wz g)) : Int) = (↑(nsg cl n (wz g)) : Int) ∧ Go.IntKind.wrap .i64 ((↑i : Int) + 1) = (↑i' : Int) ∧ True) ∧ True ∧ (cl = cl ∧ cw = cw ∧ cv = cv ∧ k = k ∧ True
∧ x = x ∧ y = y ∧ z = z ∧ w = w ∧ (True ∧ n = n) ∧ True) ∧ True ∧ (2 * n ≤ 2 * n ∧ ∀ (i : Nat), i < 2 * n → g i = g i) ∧ True)) ∧ (decide ((↑i : Int) < (↑(nsg cl n (wz g)) : Int)) = false →
 rirB (emp cl n) false (mt4 x y z w a2 b2 c2 d2) (fGt .f64 (arF a2 b2 c2 d2) (arF x y z w)) (anyB (sIs
(rcG a2 b2 c2 d2) 4 4 a2 b2 c2 d2 g n al) (nsg cl n (wz g))) (anyB (sIs g n (nsg cl n (wz g)) x y z w
(rcG a2 b2 c2 d2) 4 al) 4) = false ∧ True)) ∨ False)))) := by kernel_rfl
theorem rirSR : ConOk Tryz.prog 212 (conR rirSRC) := by
 refine con_of_vc girS Tryz.func212 rfl (by kernel_rfl) fun args => ?_
 unfold rirSRC
 split
 · rename_i s a2 b2 c2 d2 v
   intro o0
   show RdM.All _ (match serOf o0.c with | some (cl, cw, cv, k, x, y, z, w, p, n) => _ | none => _) _
   split
   · rename_i cl cw cv k x y z w p n hm0
     intro o1
     show RdM.All _ (match fltsFrom .f64 o1.c with | some (m, g) => _ | none => _) _
     split
     · rename_i m1 g hm1
       show RdM.All _ (match v.toB with | some b => _ | none => _) _
       split
       · rename_i al hal
         intro ho
         replace ho : m1 = 2 * n ∧ ((n ≤ 1000000 ∧ SmF g (2 * n)) ∧ (W1 x ∧ W1 y ∧ W1 z ∧ W1 w)) ∧ (True ∧ (W1 a2 ∧ W1 b2 ∧ W1 c2 ∧ W1 d2)) := ho
         obtain ⟨hsz1, ho⟩ := ho
         subst hsz1
         refine ⟨?_, _, _, (vc_rirSR cl cw cv k x y z w p n a2 b2 c2 d2 al g).mpr ?_⟩
         · refine okFlag_mk rfl ⟨?_, ⟨trivial, serOf_spec hm0 (by simp [sgSig, fsts, nth, sameN_self]), ⟨trivial, (contR_flts hm1).1, trivial⟩⟩⟩
           simp [eqvRL, eqvR, fkEq_self, sgSig, fsts, nth, sameN_self, toB_eqvR hal]
         · obtain ⟨⟨⟨hn, hg⟩, hA1, hA2, hA3, hA4⟩, ⟨_, hB1, hB2, hB3, hB4⟩⟩ := ho
           have ar1 := (ar_ok hA1 hA2 hA3 hA4).1
           have ar2 := (ar_ok hB1 hB2 hB3 hB4).1
           have em : (!fGt .f64 y d2 && !fLt .f64 w b2 && !fGt .f64 x c2 && !fLt .f64 z a2) = mt4 x y z w a2 b2 c2 d2 := rfl
           have eg : fGt .f64 (fop .mul .f64 (fop .sub .f64 c2 a2) (fop .sub .f64 d2 b2)) (fop .mul .f64 (fop .sub .f64 z x) (fop .sub .f64 w y)) = (fGt .f64 (arF a2 b2 c2 d2) (arF x y z w)) := rfl
           have eA : decide (n < 2 ∨ cl = true ∧ n < 3) = emp cl n := rfl
           have hns := nsg_le cl n (wz g)
           have hg2 := sm_rcG hB1 hB2 hB3 hB4
           have hns2 : 4 ≤ 4 := Nat.le_refl 4
           generalize nsg cl n (wz g) = N at *
           simp only [true_and, and_true, eq_self, Nat.le_refl, implies_true, false_and, and_false, exists_false, or_false, false_or, em, eg, Int.toNat_natCast, eA]
           refine ⟨fun q => ?_, fun q => ⟨fun m2 => ?_, fun m2 => ⟨ar2, ar1, fun hgt => ⟨⟨hn, hg⟩, ⟨⟨0, ⟨by omega, ⟨⟨q, by simpa using m2⟩, hgt⟩, fun j hj => by omega⟩, rfl⟩, fun i hi => ⟨fun h => ?_, fun h => ?_⟩⟩⟩, fun hgt => ⟨⟨0, ⟨by omega, ⟨⟨q, by simpa using m2⟩, hgt⟩, fun j hj => by omega⟩, rfl⟩, fun i hi => ⟨fun h => ?_, fun h => ?_⟩⟩⟩⟩⟩
           · unfold rirB; rw [q]; rfl
           · unfold rirB; rw [show mt4 x y z w a2 b2 c2 d2 = false by simpa using m2]; simp
           · have h := of_decide_eq_true h
             have hiM : i < N := by omega
             have hw : IntKind.i64.wrap ((i : Int) + 1) = ((i + 1 : Nat) : Int) := by rw [wrap64 (by omega) (by omega)]; omega
             have n1 := nx_lt (show i < n by omega)
             rw [hw]
             refine ⟨⟨by omega, by omega, hn⟩, ⟨⟨hB1, hB2, hB3, hB4⟩, hg _ (by omega), hg _ (by omega), hg _ (by omega), hg _ (by omega)⟩, fun q3 => ?_, fun q3 => ⟨i + 1, ⟨by omega, hi.2.1, ?_⟩, by omega, rfl⟩⟩
             · unfold rirB
               rw [q, show mt4 x y z w a2 b2 c2 d2 = true by simpa using m2, if_pos hgt, anyB_of (p := sIs (rcG a2 b2 c2 d2) 4 4 a2 b2 c2 d2 g n al) hiM q3]
               rfl
             · intro j hj
               by_cases e : j = i
               · subst e; exact q3
               · exact hi.2.2 j (by omega)
           · have h := of_decide_eq_false h
             have : i = N := by omega
             subst this
             unfold rirB
             rw [q, show mt4 x y z w a2 b2 c2 d2 = true by simpa using m2, if_pos hgt, anyB_not (p := sIs (rcG a2 b2 c2 d2) 4 4 a2 b2 c2 d2 g n al) hi.2.2]
             rfl
           · have h := of_decide_eq_true h
             have hiM : i < 4 := by omega
             have hw : IntKind.i64.wrap ((i : Int) + 1) = ((i + 1 : Nat) : Int) := by rw [wrap64 (by omega) (by omega)]; omega
             have n1 := nx_lt (show i < 4 by omega)
             rw [hw]
             obtain ⟨e1, e2, e3, e4⟩ := pt_rcG a2 b2 c2 d2 hiM
             rw [e1, e2, e3, e4]
             refine ⟨⟨by omega, by omega⟩, ⟨hn, hg, hg2 _ (by omega), hg2 _ (by omega), hg2 _ (by omega), hg2 _ (by omega)⟩, fun q3 => ?_, fun q3 => ⟨i + 1, ⟨by omega, hi.2.1, ?_⟩, by omega, rfl⟩⟩
             · unfold rirB
               rw [q, show mt4 x y z w a2 b2 c2 d2 = true by simpa using m2, if_neg (by simp [hgt]), anyB_of (p := sIs g n N x y z w (rcG a2 b2 c2 d2) 4 al) hiM q3]
               rfl
             · intro j hj
               by_cases e : j = i
               · subst e; exact q3
               · exact hi.2.2 j (by omega)
           · have h := of_decide_eq_false h
             have hi4 : i = 4 := by omega
             subst hi4
             unfold rirB
             rw [q, show mt4 x y z w a2 b2 c2 d2 = true by simpa using m2, if_neg (by simp [hgt]), anyB_not (p := sIs g n N x y z w (rcG a2 b2 c2 d2) 4 al) hi.2.2]
             rfl
       · trivial
     · trivial
   · trivial
 · trivial
end Go.Proofs.Tryz.Sx
