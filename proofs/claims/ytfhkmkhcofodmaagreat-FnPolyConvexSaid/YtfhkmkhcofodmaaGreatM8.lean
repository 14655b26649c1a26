/- Parts of a proof, in order: what each says stands at its head. No conditions. -/
import Derived.Test.YtfhkmkhcofodmaaGreatM7
namespace Go.Proofs.Tryz.Sx
open Go Go.Sx Go.Proofs Go.Fl Go.Geo
set_option maxRecDepth 100000
noncomputable def rilS (g : Nat → Nat) (n ns : Nat) (cl : Bool) (x y z w : Nat) (g2 : Nat → Nat) (n2 ns2 : Nat) (cl2 : Bool) (x2 y2 z2 w2 : Nat) (al : Bool) : Bool :=
 !(emp cl n) && (!(emp cl2 n2) && (mt4 x y z w x2 y2 z2 w2 && (anyB (sPs g n ns x y z w g2 al) n2 || anyB (sIs g n ns x y z w g2 n2 al) ns2)))
def rl7 (H : Heap) (al : Bool) (t : Int) (k : Nat) (P : Nat → Prop) : Fam := ⟨Nat, fun i => ⟨62, [(0, .ifc 157 (.ptr 0 0)), (1, .ptr 2 0), (2, .bool al), (7, .int .i64 t), (8, .int .i64 i)], H, 4⟩, fun i => i ≤ k ∧ P i, fun i => k - i⟩
def rl13 (H : Heap) (al : Bool) (t : Int) (k : Nat) (P : Nat → Prop) : Fam := ⟨Nat, fun i => ⟨62, [(0, .ifc 157 (.ptr 0 0)), (1, .ptr 2 0), (2, .bool al), (9, .int .i64 t), (10, .int .i64 i)], H, 4⟩, fun i => i ≤ k ∧ P i, fun i => k - i⟩
def HL2 (cl cw cv : Bool) (k : Int) (x y z w n : Nat) (g : Nat → Nat) : Heap := [(2, ⟨false, 152, serC cl cw cv k x y z w 3 n, 0⟩), (3, ⟨false, 100, .flts .f64 (2 * n) g, 0⟩)]
noncomputable def GilS : Ctx := ⟨⟨tys, []⟩, [(163, conR sEmptyC), (164, conR sRectSC), (175, pureCon rMeetF), (205, conR sNumPC), (206, conR sPtC), (174, conR rcpSC), (111, conR sNumSC), (112, conR sSegC), (207, conR risSC)]⟩
theorem gilS : CtxOk Tryz.prog GilS := ⟨⟨tysOk, FlatsOk.nil⟩, GamOk.cons sEmpty (GamOk.cons sRectS (GamOk.cons (.pure rMeet) (GamOk.cons sNumP (GamOk.cons sPt (GamOk.cons rcpS (GamOk.cons sNumS (GamOk.cons sSeg (GamOk.cons risS GamOk.nil)))))))), by kernel_rfl⟩
noncomputable def rilSLC : List SV → RdM
 | [.ifc 157 (.ptr s 0), .ptr l 0, v] => .read s fun o0 => (match serOf o0.c with
   | some (cl, cw, cv, k, x, y, z, w, p, n) => .read p fun o1 => (match fltsFrom .f64 o1.c with
   | some (m1, g) => .read l fun o2 => (match serOf o2.c with
   | some (cl2, cw2, cv2, k2, x2, y2, z2, w2, q2, n2) => .read q2 fun o3 => (match fltsFrom .f64 o3.c with
   | some (m3, g2) => (match v.toB with
   | some al => .ret ⟨[.ifc 157 (.ptr 0 0), .ptr 2 0, .bool al], [(0, ⟨false, 150, serC cl cw cv k x y z w 1 n, 0⟩), (1, ⟨false, 100, .flts .f64 m1 g, 0⟩), (2, ⟨false, 152, serC cl2 cw2 cv2 k2 x2 y2 z2 w2 3 n2, 0⟩), (3, ⟨false, 100, .flts .f64 m3 g2, 0⟩)], .bool (rilS g n (nsg cl n (wz g)) cl x y z w g2 n2 (nsg cl2 n2 (wz g2)) cl2 x2 y2 z2 w2 al), [], [], some (m1 = 2 * n ∧ m3 = 2 * n2 ∧ (n ≤ 1000000 ∧ SmF g (2 * n)) ∧ (n2 ≤ 1000000 ∧ SmF g2 (2 * n2)))⟩
   | none => .fail)
   | none => .fail)
   | none => .fail)
   | none => .fail)
   | none => .fail)
 | _ => .fail
theorem vc_rilSL (cl cw cv : Bool) (k : Int) (x y z w : Nat) (_ : Nm) (n : Nat) (cl2 cw2 cv2 : Bool) (k2 : Int) (x2 y2 z2 w2 : Nat) (_ : Nm) (n2 : Nat) (al : Bool)  (g : Nat → Nat) (g2 : Nat → Nat) : runA GilS 4 [(7, rl7 (HS1 cl cw cv k x y z w n g ++ HL2 cl2 cw2 cv2 k2 x2 y2 z2 w2 n2 g2) al n2 n2 (fun i => (emp cl n = false ∧ emp cl2 n2 = false ∧ mt4 x y z w x2 y2 z2 w2 = true) ∧ noneB (sPs g n (nsg cl n (wz g)) x y z w g2 al) i)), (13, rl13 (HS1 cl cw cv k x y z w n g ++ HL2 cl2 cw2 cv2 k2 x2 y2 z2 w2 n2 g2) al (nsg cl2 n2 (wz g2)) (nsg cl2 n2 (wz g2)) (fun i => ((emp cl n = false ∧ emp cl2 n2 = false ∧ mt4 x y z w x2 y2 z2 w2 = true) ∧ noneB (sPs g n (nsg cl n (wz g)) x y z w g2 al) n2) ∧ noneB (sIs g n (nsg cl n (wz g)) x y z w g2 n2 al) i))] [] (codeOf Tryz.f201) (init Tryz.f201.ntmps [.ifc 157 (.ptr 0 0), .ptr 2 0, .bool al] [(0, ⟨false, 150, serC cl cw cv k x y z w 1 n, 0⟩), (1, ⟨false, 100, .flts .f64 (2 * n) g, 0⟩), (2, ⟨false, 152, serC cl2 cw2 cv2 k2 x2 y2 z2 w2 3 n2, 0⟩), (3, ⟨false, 100, .flts .f64 (2 * n2) g2, 0⟩)] 4) (endK GilS.E.T Tryz.f201.results.toList fun S v => postP 4 ⟨[.ifc 157 (.ptr 0 0), .ptr 2 0, .bool al], [(0, ⟨false, 150, serC cl cw cv k x y z w 1 n, 0⟩), (1, ⟨false, 100, .flts .f64 (2 * n) g, 0⟩), (2, ⟨false, 152, serC cl2 cw2 cv2 k2 x2 y2 z2 w2 3 n2, 0⟩), (3, ⟨false, 100, .flts .f64 (2 * n2) g2, 0⟩)], .bool (rilS g n (nsg cl n (wz g)) cl x y z w g2 n2 (nsg cl2 n2 (wz g2)) cl2 x2 y2 z2 w2 al), [], [], some (2 * n = 2 * n ∧ 2 * n2 = 2 * n2 ∧ (n ≤ 1000000 ∧ SmF g (2 * n)) ∧ (n2 ≤ 1000000 ∧ SmF g2 (2 * n2)))⟩ S v) = (
(2 * n = 2 * n ∧ True) ∧ (decide (n < 2 ∨ cl = true ∧ n < 3) = true → rilS g n (nsg cl n (wz g)) cl x y z w g2 n2 (nsg cl2 n2
(wz g2)) cl2 x2 y2 z2 w2 al = false ∧ True) ∧ (decide (n < 2 ∨ cl = true ∧ n < 3) = false → (2 * n2 = 2 * n2 ∧ True) ∧ (decide (n2 < 2 ∨ cl2 = true ∧ n2 < 3) = true →
 rilS g n (nsg cl n (wz g)) cl x y z w g2 n2 (nsg cl2 n2 (wz g2)) cl2 x2 y2 z2 w2 al = false ∧ True) ∧ (decide (n2 < 2 ∨ cl2 = true ∧ n2 < 3) =
 false → (2 * n = 2 * n ∧ True) ∧ (2 * n2 = 2 * n2 ∧ True) ∧ true = true ∧ ((!(!fGt .f64 y w2 && !fLt .f64 w y2 && !fGt .f64 x z2 && !fLt .f64 z x2)) = true → rilS g n
(nsg cl n (wz g)) cl x y z w g2 n2 (nsg cl2 n2 (wz g2)) cl2 x2 y2 z2 w2 al = false ∧ True) ∧ ((!(!fGt .f64 y w2 && !fLt .f64 w y2 && !fGt .f64 x z2 &&
!fLt .f64 z x2)) = false → (2 * n2 = 2 * n2 ∧ True) ∧ (∃ (i : Nat), (i ≤ n2 ∧ (emp cl n = false ∧ emp cl2 n2 = false ∧ mt4 x y z w x2 y2 z2 w2 = true) ∧
 noneB (sPs g n (nsg cl n (wz g)) x y z w g2 al) i) ∧ ((True ∧ 0 = 0) ∧ (True ∧ 0 = 0) ∧ al = al ∧ (↑n2 : Int) = (↑n2 : Int) ∧ 0 = (↑i :
 Int) ∧ True) ∧ True ∧ (cl = cl ∧ cw = cw ∧ cv = cv ∧ k = k ∧ True ∧ x = x ∧ y = y ∧ z = z ∧ w = w ∧ (True ∧ n = n) ∧ True) ∧ True ∧ (2 * n ≤ 2 * n ∧ ∀ (i : Nat), i < 2 * n → g i = g i) ∧ True ∧ (cl2 = cl2 ∧ cw2 = cw2 ∧ cv2 =
 cv2 ∧ k2 = k2 ∧ True ∧ x2 = x2 ∧ y2 = y2 ∧ z2 = z2 ∧ w2 = w2 ∧ (True ∧ n2 = n2) ∧ True) ∧ True ∧ (2 * n2 ≤ 2 * n2 ∧ ∀ (i : Nat), i < 2 * n2 → g2 i = g2 i) ∧ True) ∧ ∀ (i : Nat), i ≤ n2 ∧ (emp cl n = false ∧
 emp cl2 n2 = false ∧ mt4 x y z w x2 y2 z2 w2 = true) ∧ noneB (sPs g n (nsg cl n (wz g)) x y z w g2 al) i → (decide ((↑i : Int) < (↑n2 : Int))
= true → (2 * n2 = 2 * n2 ∧ 0 ≤ (↑i : Int) ∧ (↑i : Int) < (↑n2 : Int)) ∧ (2 * n = 2 * n ∧ n ≤ 1000000 ∧ SmF g (2 * n) ∧ W1 (g2 (2 * Int.toNat (↑i :
 Int))) ∧ W1 (g2 (2 * Int.toNat (↑i : Int) + 1))) ∧ ((rcp g n (nsg cl n (wz g)) x y z w (g2 (2 * Int.toNat (↑i : Int))) (g2 (2 * Int.toNat
(↑i : Int) + 1)) al).1 = true → rilS g n (nsg cl n (wz g)) cl x y z w g2 n2 (nsg cl2 n2 (wz g2)) cl2 x2 y2 z2 w2 al = true ∧ True) ∧ (Prod.fst
(rcp g n (nsg cl n (wz g)) x y z w (g2 (2 * Int.toNat (↑i : Int))) (g2 (2 * Int.toNat (↑i : Int) + 1)) al) = false → ∃ (i' : Nat), (i' ≤ n2 ∧ (emp cl n =
 false ∧ emp cl2 n2 = false ∧ mt4 x y z w x2 y2 z2 w2 = true) ∧ noneB (sPs g n (nsg cl n (wz g)) x y z w g2 al) i') ∧ n2 - i' < n2 - i ∧ ((True
∧ 0 = 0) ∧ (True ∧ 0 = 0) ∧ al = al ∧ (↑n2 : Int) = (↑n2 : Int) ∧ Go.IntKind.wrap .i64 ((↑i : Int) + 1) = (↑i' : Int) ∧ True) ∧ True ∧ (cl = cl ∧ cw = cw ∧ cv = cv ∧ k = k ∧ True ∧ x = x ∧ y = y ∧ z = z ∧ w = w
∧ (True ∧ n = n) ∧ True) ∧ True ∧ (2 * n ≤ 2 * n ∧ ∀ (i : Nat), i < 2 * n → g i = g i) ∧ True ∧ (cl2 = cl2 ∧ cw2 = cw2 ∧ cv2 = cv2 ∧ k2 = k2 ∧ True ∧ x2 = x2 ∧ y2 = y2 ∧ z2 = z2 ∧ w2 = w2 ∧ (True ∧ n2 = n2) ∧ True) ∧ True ∧
(2 * n2 ≤ 2 * n2 ∧ ∀ (i : Nat), i < 2 * n2 → g2 i = g2 i) ∧ True)) ∧ (decide ((↑i : Int) < (↑n2 : Int)) = false → (2 * n2 = 2 * n2 ∧ n2 ≤ 1000000 ∧ SmF g2 (2 * n2)) ∧ (∃ (i :
 Nat), (i ≤ nsg cl2 n2 (wz g2) ∧ ((emp cl n = false ∧ emp cl2 n2 = false ∧ mt4 x y z w x2 y2 z2 w2 = true) ∧ noneB (sPs g n
(nsg cl n (wz g)) x y z w g2 al) n2) ∧ noneB (sIs g n (nsg cl n (wz g)) x y z w g2 n2 al) i) ∧ ((True ∧ 0 = 0) ∧ (True ∧ 0 = 0) ∧ al = al ∧ (↑(nsg cl2 n2 (wz g2)) : Int) = (↑(nsg cl2 n2 (wz g2)) : Int) ∧ 0 = (↑i : Int) ∧ True) ∧ True ∧ (cl = cl ∧ cw = cw ∧ cv = cv ∧ k = k ∧ True
∧ x = x ∧ y = y ∧ z = z ∧ w = w ∧ (True ∧ n = n) ∧ True) ∧ True ∧ (2 * n ≤ 2 * n ∧ ∀ (i : Nat), i < 2 * n → g i = g i) ∧ True ∧ (cl2 = cl2 ∧ cw2 = cw2 ∧ cv2 = cv2 ∧ k2 = k2 ∧ True ∧ x2 = x2 ∧ y2 = y2 ∧ z2 = z2 ∧ w2 = w2 ∧
(True ∧ n2 = n2) ∧ True) ∧ True ∧ (2 * n2 ≤ 2 * n2 ∧ ∀ (i : Nat), i < 2 * n2 → g2 i = g2 i) ∧ True) ∧ ∀ (i : Nat), i ≤ nsg cl2 n2 (wz g2) ∧ ((emp cl n = false ∧
 emp cl2 n2 = false ∧ mt4 x y z w x2 y2 z2 w2 = true) ∧ noneB (sPs g n (nsg cl n (wz g)) x y z w g2 al) n2) ∧ noneB
(sIs g n (nsg cl n (wz g)) x y z w g2 n2 al) i → (decide ((↑i : Int) < (↑(nsg cl2 n2 (wz g2)) : Int)) = true → (2 * n2 = 2 * n2 ∧ (0 : Int) ≤
(↑i : Int) ∧ (↑i : Int) < (↑n2 : Int) ∧ n2 ≤ 1000000) ∧ (2 * n = 2 * n ∧ n ≤ 1000000 ∧ SmF g (2 * n) ∧ W1 (g2 (2 * Int.toNat (↑i : Int))) ∧ W1 (g2
(2 * Int.toNat (↑i : Int) + 1)) ∧ W1 (g2 (2 * nx n2 (Int.toNat (↑i : Int)))) ∧ W1 (g2 (2 * nx n2 (Int.toNat (↑i : Int)) + 1))) ∧
(ris g n (nsg cl n (wz g)) x y z w (g2 (2 * Int.toNat (↑i : Int))) (g2 (2 * Int.toNat (↑i : Int) + 1)) (g2 (2 * nx n2 (Int.toNat (↑i : Int)))) (g2
(2 * nx n2 (Int.toNat (↑i : Int)) + 1)) al = true → rilS g n (nsg cl n (wz g)) cl x y z w g2 n2 (nsg cl2 n2 (wz g2)) cl2 x2 y2
 z2 w2 al = true ∧ True) ∧ (ris g n (nsg cl n (wz g)) x y z w (g2 (2 * Int.toNat (↑i : Int))) (g2 (2 * Int.toNat (↑i : Int) + 1)) (g2 (2 * nx n2
(Int.toNat (↑i : Int)))) (g2 (2 * nx n2 (Int.toNat (↑i : Int)) + 1)) al = false → ∃ (i' : Nat), (i' ≤ nsg cl2 n2 (wz g2) ∧ ((emp cl n = false ∧
 emp cl2 n2 = false ∧ mt4 x y z w x2 y2 z2 w2 = true) ∧ noneB (sPs g n (nsg cl n (wz g)) x y z w g2 al) n2) ∧ noneB
(sIs g n (nsg cl n (wz g)) x y z w g2 n2 al) i') ∧ nsg cl2 n2 (wz g2) - i' < nsg cl2 n2 (wz g2) - i ∧ ((True ∧ 0 =
0) ∧ (True ∧ 0 = 0) ∧ al = al ∧ (↑(nsg cl2 n2 (wz g2)) : Int) = (↑(nsg cl2 n2 (wz g2)) : Int) ∧ Go.IntKind.wrap .i64 ((↑i : Int) + 1) = (↑i' :
 Int) ∧ True) ∧ True ∧ (cl = cl ∧ cw = cw ∧ cv = cv ∧ k = k ∧ True ∧ x = x ∧ y = y ∧ z = z ∧ w = w ∧ (True ∧ n = n) ∧ True) ∧ True ∧ (2 * n ≤ 2 * n ∧ ∀ (i : Nat), i < 2 * n → g i = g i) ∧ True ∧ (cl2 = cl2 ∧ cw2 = cw2 ∧ cv2 =
 cv2 ∧ k2 = k2 ∧ True ∧ x2 = x2 ∧ y2 = y2 ∧ z2 = z2 ∧ w2 = w2 ∧ (True ∧ n2 = n2) ∧ True) ∧ True ∧ (2 * n2 ≤ 2 * n2 ∧ ∀ (i : Nat), i < 2 * n2 → g2 i = g2 i) ∧ True)) ∧ (decide ((↑i : Int) < (↑(nsg cl2 n2
(wz g2)) : Int)) = false → rilS g n (nsg cl n (wz g)) cl x y z w g2 n2 (nsg cl2 n2 (wz g2)) cl2 x2 y2 z2 w2 al = false ∧ True)))))) := by kernel_rfl
theorem rilSL : ConOk Tryz.prog 201 (conR rilSLC) := by
 refine con_of_vc gilS Tryz.func201 rfl (by kernel_rfl) fun args => ?_
 unfold rilSLC
 split
 · rename_i s l v
   intro o0
   show RdM.All _ (match serOf o0.c with | some (cl, cw, cv, k, x, y, z, w, p, n) => _ | none => _) _
   split
   · rename_i cl cw cv k x y z w p n hm0
     intro o1
     show RdM.All _ (match fltsFrom .f64 o1.c with | some (m, g) => _ | none => _) _
     split
     · rename_i m1 g hm1
       intro o2
       show RdM.All _ (match serOf o2.c with | some (cl2, cw2, cv2, k2, x2, y2, z2, w2, q2, n2) => _ | none => _) _
       split
       · rename_i cl2 cw2 cv2 k2 x2 y2 z2 w2 q2 n2 hm2
         intro o3
         show RdM.All _ (match fltsFrom .f64 o3.c with | some (m, g) => _ | none => _) _
         split
         · rename_i m3 g2 hm3
           show RdM.All _ (match v.toB with | some b => _ | none => _) _
           split
           · rename_i al hal
             intro ho
             replace ho : m1 = 2 * n ∧ m3 = 2 * n2 ∧ (n ≤ 1000000 ∧ SmF g (2 * n)) ∧ (n2 ≤ 1000000 ∧ SmF g2 (2 * n2)) := ho
             obtain ⟨hsz1, hsz3, ho⟩ := ho
             subst hsz1
             subst hsz3
             refine ⟨?_, _, _, (vc_rilSL cl cw cv k x y z w p n cl2 cw2 cv2 k2 x2 y2 z2 w2 q2 n2 al g g2).mpr ?_⟩
             · refine okFlag_mk rfl ⟨?_, ⟨trivial, serOf_spec hm0 (by simp [sgSig, fsts, nth, sameN_self]), ⟨trivial, (contR_flts hm1).1, ⟨trivial, serOf_spec hm2 (by simp [sgSig, fsts, nth, sameN_self]), ⟨trivial, (contR_flts hm3).1, trivial⟩⟩⟩⟩⟩
               simp [eqvRL, eqvR, sgSig, fsts, nth, sameN_self, toB_eqvR hal]
             · obtain ⟨⟨hn, hg⟩, hn2, hg2⟩ := ho
               have eA : decide (n < 2 ∨ cl = true ∧ n < 3) = emp cl n := rfl
               have eB : decide (n2 < 2 ∨ cl2 = true ∧ n2 < 3) = emp cl2 n2 := rfl
               have em : (!fGt .f64 y w2 && !fLt .f64 w y2 && !fGt .f64 x z2 && !fLt .f64 z x2) = mt4 x y z w x2 y2 z2 w2 := rfl
               have hns2 := nsg_le cl2 n2 (wz g2)
               generalize nsg cl n (wz g) = N
               generalize nsg cl2 n2 (wz g2) = N2 at *
               simp only [true_and, and_true, eq_self, Nat.le_refl, implies_true, eA, eB, em, Int.toNat_natCast]
               refine ⟨fun q => by unfold rilS; rw [q]; rfl, fun q => ⟨fun q' => by unfold rilS; rw [q, q']; rfl, fun q' => ⟨fun m2 => ?_, fun m2 => ⟨⟨0, ⟨by omega, ⟨q, q', by simpa using m2⟩, fun j hj => by omega⟩, rfl⟩, fun i hi => ⟨fun h => ?_, fun h => ⟨⟨hn2, hg2⟩, ⟨0, ⟨by omega, ⟨hi.2.1, ?_⟩, fun j hj => by omega⟩, rfl⟩, fun i' hi' => ⟨fun h' => ?_, fun h' => ?_⟩⟩⟩⟩⟩⟩⟩
               · unfold rilS; rw [q, q', show mt4 x y z w x2 y2 z2 w2 = false by simpa using m2]; rfl
               · have h := of_decide_eq_true h
                 have hw : IntKind.i64.wrap ((i : Int) + 1) = ((i + 1 : Nat) : Int) := by rw [wrap64 (by omega) (by omega)]; omega
                 rw [hw]
                 refine ⟨⟨by omega, by omega⟩, ⟨hn, hg, hg2 _ (by omega), hg2 _ (by omega)⟩, fun q3 => ?_, fun q3 => ⟨i + 1, ⟨by omega, hi.2.1, ?_⟩, by omega, rfl⟩⟩
                 · unfold rilS
                   rw [q, q', hi.2.1.2.2, anyB_of (p := sPs g n N x y z w g2 al) (i := i) (by omega) q3]
                   rfl
                 · intro j hj
                   by_cases e : j = i
                   · subst e; exact q3
                   · exact hi.2.2 j (by omega)
               · have h := of_decide_eq_false h
                 have : i = n2 := by omega
                 subst this
                 exact hi.2.2
               · have h' := of_decide_eq_true h'
                 have hw : IntKind.i64.wrap ((i' : Int) + 1) = ((i' + 1 : Nat) : Int) := by rw [wrap64 (by omega) (by omega)]; omega
                 have n1 := nx_lt (show i' < n2 by omega)
                 rw [hw]
                 refine ⟨⟨by omega, by omega, hn2⟩, ⟨hn, hg, hg2 _ (by omega), hg2 _ (by omega), hg2 _ (by omega), hg2 _ (by omega)⟩, fun q3 => ?_, fun q3 => ⟨i' + 1, ⟨by omega, hi'.2.1, ?_⟩, by omega, rfl⟩⟩
                 · unfold rilS
                   rw [q, q', hi.2.1.2.2, anyB_of (p := sIs g n N x y z w g2 n2 al) (i := i') (by omega) q3]
                   simp
                 · intro j hj
                   by_cases e : j = i'
                   · subst e; exact q3
                   · exact hi'.2.2 j (by omega)
               · have h' := of_decide_eq_false h'
                 have : i' = N2 := by omega
                 subst this
                 unfold rilS
                 rw [q, q', hi.2.1.2.2, anyB_not hi'.2.1.2, anyB_not hi'.2.2]
                 rfl
           · trivial
         · trivial
       · trivial
     · trivial
   · trivial
 · trivial
noncomputable def GclS : Ctx := ⟨⟨tys, []⟩, [(213, conR rcrSSC)]⟩
theorem gclS : CtxOk Tryz.prog GclS := ⟨⟨tysOk, FlatsOk.nil⟩, GamOk.cons rcrSS GamOk.nil, by kernel_rfl⟩
noncomputable def rclSLC : List SV → RdM
 | [.ifc 157 (.ptr s 0), .ptr l 0, v] => .read s fun o0 => (match serOf o0.c with
   | some (cl, cw, cv, k, x, y, z, w, p, n) => .read p fun o1 => (match fltsFrom .f64 o1.c with
   | some (m1, g) => .read l fun o2 => (match serOf o2.c with
   | some (cl2, cw2, cv2, k2, x2, y2, z2, w2, q2, n2) => .read q2 fun o3 => (match fltsFrom .f64 o3.c with
   | some (m3, g2) => (match v.toB with
   | some al => .ret ⟨[.ifc 157 (.ptr 0 0), .ptr 2 0, .bool al], [(0, ⟨false, 150, serC cl cw cv k x y z w 1 n, 0⟩), (1, ⟨false, 100, .flts .f64 m1 g, 0⟩), (2, ⟨false, 152, serC cl2 cw2 cv2 k2 x2 y2 z2 w2 3 n2, 0⟩), (3, ⟨false, 100, .flts .f64 m3 g2, 0⟩)], .bool (rcrS g n (nsg cl n (wz g)) cl cw cv x y z w g2 n2 (nsg cl2 n2 (wz g2)) cl2 x2 y2 z2 w2 al), [], [], some (m1 = 2 * n ∧ m3 = 2 * n2 ∧ (n ≤ 1000000 ∧ SmF g (2 * n)) ∧ (n2 ≤ 1000000 ∧ SmF g2 (2 * n2)) ∧ W1 x2 ∧ W1 y2 ∧ W1 z2 ∧ W1 w2)⟩
   | none => .fail)
   | none => .fail)
   | none => .fail)
   | none => .fail)
   | none => .fail)
 | _ => .fail
theorem vc_rclSL (cl cw cv : Bool) (k : Int) (x y z w : Nat) (_ : Nm) (n : Nat) (cl2 cw2 cv2 : Bool) (k2 : Int) (x2 y2 z2 w2 : Nat) (_ : Nm) (n2 : Nat) (al : Bool)  (g : Nat → Nat) (g2 : Nat → Nat) : runA GclS 4 [] [] (codeOf Tryz.f235) (init Tryz.f235.ntmps [.ifc 157 (.ptr 0 0), .ptr 2 0, .bool al] [(0, ⟨false, 150, serC cl cw cv k x y z w 1 n, 0⟩), (1, ⟨false, 100, .flts .f64 (2 * n) g, 0⟩), (2, ⟨false, 152, serC cl2 cw2 cv2 k2 x2 y2 z2 w2 3 n2, 0⟩), (3, ⟨false, 100, .flts .f64 (2 * n2) g2, 0⟩)] 4) (endK GclS.E.T Tryz.f235.results.toList fun S v => postP 4 ⟨[.ifc 157 (.ptr 0 0), .ptr 2 0, .bool al], [(0, ⟨false, 150, serC cl cw cv k x y z w 1 n, 0⟩), (1, ⟨false, 100, .flts .f64 (2 * n) g, 0⟩), (2, ⟨false, 152, serC cl2 cw2 cv2 k2 x2 y2 z2 w2 3 n2, 0⟩), (3, ⟨false, 100, .flts .f64 (2 * n2) g2, 0⟩)], .bool (rcrS g n (nsg cl n (wz g)) cl cw cv x y z w g2 n2 (nsg cl2 n2 (wz g2)) cl2 x2 y2 z2 w2 al), [], [], some (2 * n = 2 * n ∧ 2 * n2 = 2 * n2 ∧ (n ≤ 1000000 ∧ SmF g (2 * n)) ∧ (n2 ≤ 1000000 ∧ SmF g2 (2 * n2)) ∧ W1 x2 ∧ W1 y2 ∧ W1 z2 ∧ W1 w2)⟩ S v) = (
(2 * n = 2 * n ∧ 2 * n2 = 2 * n2 ∧ (n ≤ 1000000 ∧ SmF g (2 * n)) ∧ (n2 ≤ 1000000 ∧ SmF g2 (2 * n2)) ∧ W1 x2 ∧ W1
 y2 ∧ W1 z2 ∧ W1 w2) ∧ rcrS g n (nsg cl n (wz g)) cl cw cv x y z w g2 n2 (nsg cl2 n2 (wz g2)) cl2 x2 y2 z2 w2 al =
 rcrS g n (nsg cl n (wz g)) cl cw cv x y z w g2 n2 (nsg cl2 n2 (wz g2)) cl2 x2 y2 z2 w2 al ∧ True) := by kernel_rfl
theorem rclSL : ConOk Tryz.prog 235 (conR rclSLC) := by
 refine con_of_vc gclS Tryz.func235 rfl (by kernel_rfl) fun args => ?_
 unfold rclSLC
 split
 · rename_i s l v
   intro o0
   show RdM.All _ (match serOf o0.c with | some (cl, cw, cv, k, x, y, z, w, p, n) => _ | none => _) _
   split
   · rename_i cl cw cv k x y z w p n hm0
     intro o1
     show RdM.All _ (match fltsFrom .f64 o1.c with | some (m, g) => _ | none => _) _
     split
     · rename_i m1 g hm1
       intro o2
       show RdM.All _ (match serOf o2.c with | some (cl2, cw2, cv2, k2, x2, y2, z2, w2, q2, n2) => _ | none => _) _
       split
       · rename_i cl2 cw2 cv2 k2 x2 y2 z2 w2 q2 n2 hm2
         intro o3
         show RdM.All _ (match fltsFrom .f64 o3.c with | some (m, g) => _ | none => _) _
         split
         · rename_i m3 g2 hm3
           show RdM.All _ (match v.toB with | some b => _ | none => _) _
           split
           · rename_i al hal
             intro ho
             replace ho : m1 = 2 * n ∧ m3 = 2 * n2 ∧ (n ≤ 1000000 ∧ SmF g (2 * n)) ∧ (n2 ≤ 1000000 ∧ SmF g2 (2 * n2)) ∧ W1 x2 ∧ W1 y2 ∧ W1 z2 ∧ W1 w2 := ho
             obtain ⟨hsz1, hsz3, ho⟩ := ho
             subst hsz1
             subst hsz3
             refine ⟨?_, _, _, (vc_rclSL cl cw cv k x y z w p n cl2 cw2 cv2 k2 x2 y2 z2 w2 q2 n2 al g g2).mpr ?_⟩
             · refine okFlag_mk rfl ⟨?_, ⟨trivial, serOf_spec hm0 (by simp [sgSig, fsts, nth, sameN_self]), ⟨trivial, (contR_flts hm1).1, ⟨trivial, serOf_spec hm2 (by simp [sgSig, fsts, nth, sameN_self]), ⟨trivial, (contR_flts hm3).1, trivial⟩⟩⟩⟩⟩
               simp [eqvRL, eqvR, sgSig, fsts, nth, sameN_self, toB_eqvR hal]
             · simp [ho]
           · trivial
         · trivial
       · trivial
     · trivial
   · trivial
 · trivial
noncomputable def newRingC : List SV → RdM
 | [.slcc n len, .ptr o 0] => .read n fun o0 => (match fltsFrom .f64 o0.c with
   | some (m0, g) => .read o fun o1 => (match optOf o1.c with
   | some (k, m) => .ret ⟨[.slcc 0 len, .ptr 1 0], [(0, ⟨false, 100, .flts .f64 m0 g, 0⟩), (1, ⟨false, 148, optC k m, 0⟩)], .ifc 157 (.ptr 2 0), [], [(2, ⟨true, 150, .cells (rectS len true g 3 0), 0⟩), (3, ⟨true, 100, .flts .f64 (2 * len) g, 2⟩)], some (m0 = 2 * len ∧ k = 0 ∧ len ≤ 1000000 ∧ (ppBig len true = true → ppOk g len))⟩
   | none => .fail)
   | none => .fail)
 | _ => .fail
theorem vc_newRing (len : Nat) (m : Int) (k : Int)  (g : Nat → Nat) : runA GNL 2 [] [] (codeOf Tryz.f101) (init Tryz.f101.ntmps [.slcc 0 len, .ptr 1 0] [(0, ⟨false, 100, .flts .f64 (2 * len) g, 0⟩), (1, ⟨false, 148, optC k m, 0⟩)] 2) (endK GNL.E.T Tryz.f101.results.toList fun S v => postP 2 ⟨[.slcc 0 len, .ptr 1 0], [(0, ⟨false, 100, .flts .f64 (2 * len) g, 0⟩), (1, ⟨false, 148, optC k m, 0⟩)], .ifc 157 (.ptr 2 0), [], [(2, ⟨true, 150, .cells (rectS len true g 3 0), 0⟩), (3, ⟨true, 100, .flts .f64 (2 * len) g, 2⟩)], some (2 * len = 2 * len ∧ k = 0 ∧ len ≤ 1000000 ∧ (ppBig len true = true → ppOk g len))⟩ S v) = (
(2 * len = 2 * len ∧ k = (0 : Int) ∧ len ≤ 1000000 ∧ (ppBig len true = true → ppOk g len)) ∧ (True ∧ 0 = 0) ∧ True ∧ (150 = 150 ∧ 0 = 0 ∧ true
= true ∧ (ppBig len true && fGt .f64 (cwF g len len) 0) = (ppBig len true && fGt .f64 (cwF g len len) 0) ∧ (ppBig len true &&
!(dcF g len len).2) = (ppBig len true && !(dcF g len len).2) ∧ (0 : Int) = 0 ∧ True ∧ pick (ppBig len true) (rlo g 0 len) = pick (ppBig len true) (rlo g 0 len) ∧ pick (ppBig len true) (rlo g 1 len) = pick
(ppBig len true) (rlo g 1 len) ∧ pick (ppBig len true) (rhi g 0 len) = pick (ppBig len true)
(rhi g 0 len) ∧ pick (ppBig len true) (rhi g 1 len) = pick (ppBig len true) (rhi g 1 len) ∧ (True ∧
 len = len) ∧ True) ∧ True ∧ (100 = 100 ∧ 2 = 2 ∧ 2 * len ≤ 2 * len ∧ ∀ (i : Nat), i < 2 * len → g i = g i) ∧ True) := by kernel_rfl
theorem newRing : ConOk Tryz.prog 101 (conR newRingC) := by
 refine con_of_vc gNL Tryz.func101 rfl (by kernel_rfl) fun args => ?_
 unfold newRingC
 split
 · rename_i n len o
   intro o0
   show RdM.All _ (match fltsFrom .f64 o0.c with | some (m, g) => _ | none => _) _
   split
   · rename_i m0 g hm0
     intro o1
     show RdM.All _ (match optOf o1.c with | some (k, m) => _ | none => _) _
     split
     · rename_i k m hm1
       intro ho
       replace ho : m0 = 2 * len ∧ k = 0 ∧ len ≤ 1000000 ∧ (ppBig len true = true → ppOk g len) := ho
       obtain ⟨hsz0, ho⟩ := ho
       subst hsz0
       refine ⟨?_, _, _, (vc_newRing len m k g).mpr ?_⟩
       · refine okFlag_mk rfl ⟨?_, ⟨trivial, (contR_flts hm0).1, ⟨trivial, optOf_spec hm1, trivial⟩⟩⟩
         simp [eqvRL, eqvR, sgSig, fsts, nth, sameN_self]
       · obtain ⟨hk, hl, hok⟩ := ho
         simp [hk, hl]
         exact hok
     · trivial
   · trivial
 · trivial
noncomputable def GNP : Ctx := ⟨⟨tys, []⟩, [(101, conR newRingC)]⟩
theorem gNP : CtxOk Tryz.prog GNP := ⟨⟨tysOk, FlatsOk.nil⟩, GamOk.cons newRing GamOk.nil, by kernel_rfl⟩
noncomputable def newPoly0C : List SV → RdM
 | [.slcc n len, .nils, .ptr o 0] => .read n fun o0 => (match fltsFrom .f64 o0.c with
   | some (m0, g) => .read o fun o1 => (match optOf o1.c with
   | some (k, m) => .ret ⟨[.slcc 0 len, .nils, .ptr 1 0], [(0, ⟨false, 100, .flts .f64 m0 g, 0⟩), (1, ⟨false, 148, optC k m, 0⟩)], .ptr 2 0, [], [(2, ⟨true, 137, .cells [.ifc 157 (.ptr 3 0), .nils], 0⟩), (3, ⟨true, 150, .cells (rectS len true g 4 0), 0⟩), (4, ⟨true, 100, .flts .f64 (2 * len) g, 2⟩)], some (m0 = 2 * len ∧ k = 0 ∧ len ≤ 1000000 ∧ (ppBig len true = true → ppOk g len))⟩
   | none => .fail)
   | none => .fail)
 | _ => .fail
theorem vc_newPoly0 (len : Nat) (m : Int) (k : Int)  (g : Nat → Nat) : runA GNP 2 [] [] (codeOf Tryz.f91) (init Tryz.f91.ntmps [.slcc 0 len, .nils, .ptr 1 0] [(0, ⟨false, 100, .flts .f64 (2 * len) g, 0⟩), (1, ⟨false, 148, optC k m, 0⟩)] 2) (endK GNP.E.T Tryz.f91.results.toList fun S v => postP 2 ⟨[.slcc 0 len, .nils, .ptr 1 0], [(0, ⟨false, 100, .flts .f64 (2 * len) g, 0⟩), (1, ⟨false, 148, optC k m, 0⟩)], .ptr 2 0, [], [(2, ⟨true, 137, .cells [.ifc 157 (.ptr 3 0), .nils], 0⟩), (3, ⟨true, 150, .cells (rectS len true g 4 0), 0⟩), (4, ⟨true, 100, .flts .f64 (2 * len) g, 2⟩)], some (2 * len = 2 * len ∧ k = 0 ∧ len ≤ 1000000 ∧ (ppBig len true = true → ppOk g len))⟩ S v) = (
(2 * len = 2 * len ∧ k = (0 : Int) ∧ len ≤ 1000000 ∧ (ppBig len true = true → ppOk g len)) ∧ (false = true → ((0 : Int) = 0 ∧ (0 : Int) ≤ 0 ∧ (0 : Int) ≤ (9223372036854775807
: Int) ∧ (0 : Int) ≤ 140737488355328) ∧ False) ∧ (false = false → (True ∧ 0 = 0) ∧ True ∧ (137 = 137 ∧ 0 = 0 ∧ (True ∧ 0 = 0) ∧ True ∧ True) ∧ True ∧ (150 = 150 ∧
0 = 0 ∧ true = true ∧ (ppBig len true && fGt .f64 (cwF g len len) 0) = (ppBig len true && fGt .f64 (cwF g len len) 0) ∧
(ppBig len true && !(dcF g len len).2) = (ppBig len true && !(dcF g len len).2) ∧ (0 : Int) = 0 ∧ True ∧ pick (ppBig len
 true) (rlo g 0 len) = pick (ppBig len true) (rlo g 0 len) ∧ pick (ppBig len true) (rlo g 1 len) =
 pick (ppBig len true) (rlo g 1 len) ∧ pick (ppBig len true) (rhi g 0 len) = pick (ppBig
 len true) (rhi g 0 len) ∧ pick (ppBig len true) (rhi g 1 len) = pick (ppBig len true) (rhi g 1 len)
∧ (True ∧ len = len) ∧ True) ∧ True ∧ (100 = 100 ∧ 2 = 2 ∧ 2 * len ≤ 2 * len ∧ ∀ (i : Nat), i < 2 * len → g i = g i) ∧ True)) := by kernel_rfl
theorem newPoly0 : ConOk Tryz.prog 91 (conR newPoly0C) := by
 refine con_of_vc gNP Tryz.func91 rfl (by kernel_rfl) fun args => ?_
 unfold newPoly0C
 split
 · rename_i n len o
   intro o0
   show RdM.All _ (match fltsFrom .f64 o0.c with | some (m, g) => _ | none => _) _
   split
   · rename_i m0 g hm0
     intro o1
     show RdM.All _ (match optOf o1.c with | some (k, m) => _ | none => _) _
     split
     · rename_i k m hm1
       intro ho
       replace ho : m0 = 2 * len ∧ k = 0 ∧ len ≤ 1000000 ∧ (ppBig len true = true → ppOk g len) := ho
       obtain ⟨hsz0, ho⟩ := ho
       subst hsz0
       refine ⟨?_, _, _, (vc_newPoly0 len m k g).mpr ?_⟩
       · refine okFlag_mk rfl ⟨?_, ⟨trivial, (contR_flts hm0).1, ⟨trivial, optOf_spec hm1, trivial⟩⟩⟩
         simp [eqvRL, eqvR, sgSig, fsts, nth, sameN_self]
       · obtain ⟨hk, hl, hok⟩ := ho
         simp [hk, hl]
         exact hok
     · trivial
   · trivial
 · trivial
def holOf : Cont → Option (Nm × Nat)
 | .cells [.slcc q m] => some (q, m)
 | _ => none
theorem holOf_spec {σ : Sig} {c : Cont} {p q : Nm} {n : Nat} (h : holOf c = some (p, n)) (hs : sameN (σ q) p) : contR σ c (.cells [.slcc q n]) := by
 unfold holOf at h
 split at h
 · simp only [Option.some.injEq, Prod.mk.injEq] at h
   obtain ⟨rfl, rfl⟩ := h
   show eqvRL σ _ _
   simp [eqvRL, eqvR, hs]
 · cases h
def np6 (len hl : Nat) (km : Int × Int) (g gh : Nat → Nat) (i : Int) (hc : SV) (x : Heap) (m : Nat) : Fam := ⟨Nat, fun _ =>
 ⟨44, [(1, .slcc 1 1), (2, .ptr 3 0), (7, .ptr 4 0), (26, .int .i64 1), (27, .int .i64 i)], [(1, ⟨false, 118, .cells [.slcc 2 hl], 0⟩), (2, ⟨false, 100, .flts .f64 (2 * hl) gh, 0⟩), (3, ⟨false, 148, optC km.1 km.2, 0⟩), (4, ⟨true, 137, .cells [.ifc 157 (.ptr 6 0), .slcc 5 1], 0⟩), (5, ⟨true, 106, .cells [hc], 1⟩), (6, ⟨true, 150, .cells (rectS len true g 7 0), 0⟩), (7, ⟨true, 100, .flts .f64 (2 * len) g, 2⟩)] ++ x, m⟩, fun _ => True, fun _ => 0⟩
noncomputable def newPoly1C : List SV → RdM
 | [.slcc n len, .slcc h 1, .ptr o 0] => .read n fun o0 => (match fltsFrom .f64 o0.c with
   | some (m0, g) => .read h fun o1 => (match holOf o1.c with
   | some (q, hl) => .read q fun o2 => (match fltsFrom .f64 o2.c with
   | some (m2, gh) => .read o fun o3 => (match optOf o3.c with
   | some (k, m) => .ret ⟨[.slcc 0 len, .slcc 1 1, .ptr 3 0], [(0, ⟨false, 100, .flts .f64 m0 g, 0⟩), (1, ⟨false, 118, .cells [.slcc 2 hl], 0⟩), (2, ⟨false, 100, .flts .f64 m2 gh, 0⟩), (3, ⟨false, 148, optC k m, 0⟩)], .ptr 4 0, [], [(4, ⟨true, 137, .cells [.ifc 157 (.ptr 6 0), .slcc 5 1], 0⟩), (5, ⟨true, 106, .cells [.ifc 157 (.ptr 8 0)], 1⟩), (6, ⟨true, 150, .cells (rectS len true g 7 0), 0⟩), (7, ⟨true, 100, .flts .f64 (2 * len) g, 2⟩), (8, ⟨true, 150, .cells (rectS hl true gh 9 0), 0⟩), (9, ⟨true, 100, .flts .f64 (2 * hl) gh, 2⟩)], some (m0 = 2 * len ∧ m2 = 2 * hl ∧ k = 0 ∧ (len ≤ 1000000 ∧ (ppBig len true = true → ppOk g len)) ∧ (hl ≤ 1000000 ∧ (ppBig hl true = true → ppOk gh hl)))⟩
   | none => .fail)
   | none => .fail)
   | none => .fail)
   | none => .fail)
 | _ => .fail
theorem vc_newPoly1 (len hl : Nat) (m : Int) (k : Int) (_ : Nm)  (g : Nat → Nat) (gh : Nat → Nat) : runA GNP 4 [(6, .unr [np6 len hl (k, m) g gh 0 .nili [] 8, np6 len hl (k, m) g gh 1 (.ifc 157 (.ptr 8 0)) [(8, ⟨true, 150, .cells (rectS hl true gh 9 0), 0⟩), (9, ⟨true, 100, .flts .f64 (2 * hl) gh, 2⟩)] 10])] [] (codeOf Tryz.f91) (init Tryz.f91.ntmps [.slcc 0 len, .slcc 1 1, .ptr 3 0] [(0, ⟨false, 100, .flts .f64 (2 * len) g, 0⟩), (1, ⟨false, 118, .cells [.slcc 2 hl], 0⟩), (2, ⟨false, 100, .flts .f64 (2 * hl) gh, 0⟩), (3, ⟨false, 148, optC k m, 0⟩)] 4) (endK GNP.E.T Tryz.f91.results.toList fun S v => postP 4 ⟨[.slcc 0 len, .slcc 1 1, .ptr 3 0], [(0, ⟨false, 100, .flts .f64 (2 * len) g, 0⟩), (1, ⟨false, 118, .cells [.slcc 2 hl], 0⟩), (2, ⟨false, 100, .flts .f64 (2 * hl) gh, 0⟩), (3, ⟨false, 148, optC k m, 0⟩)], .ptr 4 0, [], [(4, ⟨true, 137, .cells [.ifc 157 (.ptr 6 0), .slcc 5 1], 0⟩), (5, ⟨true, 106, .cells [.ifc 157 (.ptr 8 0)], 1⟩), (6, ⟨true, 150, .cells (rectS len true g 7 0), 0⟩), (7, ⟨true, 100, .flts .f64 (2 * len) g, 2⟩), (8, ⟨true, 150, .cells (rectS hl true gh 9 0), 0⟩), (9, ⟨true, 100, .flts .f64 (2 * hl) gh, 2⟩)], some (2 * len = 2 * len ∧ 2 * hl = 2 * hl ∧ k = 0 ∧ (len ≤ 1000000 ∧ (ppBig len true = true → ppOk g len)) ∧ (hl ≤ 1000000 ∧ (ppBig hl true = true → ppOk gh hl)))⟩ S v) = (
(2 * len = 2 * len ∧ k = (0 : Int) ∧ len ≤ 1000000 ∧ (ppBig len true = true → ppOk g len)) ∧ (true = true → ((1 : Int) = 1 ∧ (0 : Int) ≤ 1 ∧ (1 : Int) ≤ (9223372036854775807
: Int) ∧ (16 : Int) ≤ 140737488355328) ∧ (∃ (_ : Nat), True ∧ ((True ∧ 1 = 1) ∧ (True ∧ 0 = 0) ∧ (True ∧ 0 = 0) ∧ (1 : Int) = 1 ∧ (0 : Int) = 0 ∧ True) ∧ True ∧ ((True ∧ hl = hl)
∧ True) ∧ True ∧ (2 * hl ≤ 2 * hl ∧ ∀ (i : Nat), i < 2 * hl → gh i = gh i) ∧ True ∧ (k = k ∧ m = m ∧ True) ∧ True ∧ (137 = 137 ∧ 0 = 0 ∧ (True ∧ 0 = 0) ∧ (True ∧ 1 = 1) ∧ True) ∧ True ∧ (106 = 106 ∧ 1 = 1 ∧ True ∧ True) ∧ True ∧ (150 = 150 ∧ 0 = 0 ∧ true = true ∧ (ppBig len true && fGt .f64 (cwF g len len)
0) = (ppBig len true && fGt .f64 (cwF g len len) 0) ∧ (ppBig len true && !(dcF g len len).2) = (ppBig len true && !Prod.snd
(dcF g len len)) ∧ (0 : Int) = 0 ∧ True ∧ pick (ppBig len true) (rlo g 0 len) = pick (ppBig len true) (rlo g
0 len) ∧ pick (ppBig len true) (rlo g 1 len) = pick (ppBig len true) (rlo g 1 len) ∧ pick
(ppBig len true) (rhi g 0 len) = pick (ppBig len true) (rhi g 0 len) ∧ pick (ppBig len true)
(rhi g 1 len) = pick (ppBig len true) (rhi g 1 len) ∧ (True ∧ len = len) ∧ True) ∧ True ∧ (100 = 100 ∧ 2 = 2 ∧ 2 * len ≤
2 * len ∧ ∀ (i : Nat), i < 2 * len → g i = g i) ∧ True) ∧ (∀ (_ : Nat), True → (true = true → (((0 : Int) ≤ 0 ∧ (0 : Int) < 1) ∧ True) ∧ (2 * hl = 2 * hl ∧ k = (0 : Int) ∧ hl ≤ 1000000 ∧
(ppBig hl true = true → ppOk gh hl)) ∧ (((0 : Int) ≤ 0 ∧ (0 : Int) < 1) ∧ True) ∧ true = true ∧ ∃ (_ : Nat), True ∧ ((True ∧ 1 = 1) ∧ (True ∧ 0 = 0) ∧ (True ∧ 0 = 0) ∧ (1 : Int) = 1 ∧ (1 : Int) = 1 ∧ True) ∧ True ∧ ((True ∧ hl = hl) ∧ True) ∧ True ∧ (2 * hl ≤ 2 * hl ∧ ∀ (i : Nat), i < 2 * hl → gh i = gh i) ∧ True ∧ (k = k ∧ m = m ∧ True) ∧ True ∧ (137 = 137 ∧ 0 = 0 ∧ (True ∧ 0 = 0) ∧ (True ∧ 1 = 1) ∧ True) ∧ True ∧ (106 = 106 ∧ 1 = 1 ∧ (True ∧ 0 = 0) ∧ True) ∧ True ∧ (150 = 150 ∧ 0 = 0 ∧ true = true ∧ (ppBig len true && fGt .f64 (cwF g len len) 0) = (ppBig len true && fGt .f64 (cwF g len len) 0) ∧
(ppBig len true && !(dcF g len len).2) = (ppBig len true && !(dcF g len len).2) ∧ (0 : Int) = 0 ∧ True ∧ pick (ppBig len
 true) (rlo g 0 len) = pick (ppBig len true) (rlo g 0 len) ∧ pick (ppBig len true) (rlo g 1 len) =
 pick (ppBig len true) (rlo g 1 len) ∧ pick (ppBig len true) (rhi g 0 len) = pick (ppBig
 len true) (rhi g 0 len) ∧ pick (ppBig len true) (rhi g 1 len) = pick (ppBig len true) (rhi g 1 len)
∧ (True ∧ len = len) ∧ True) ∧ True ∧ (100 = 100 ∧ 2 = 2 ∧ 2 * len ≤ 2 * len ∧ ∀ (i : Nat), i < 2 * len → g i = g i) ∧ True ∧ (150 = 150 ∧ 0 = 0 ∧ true = true ∧
(ppBig hl true && fGt .f64 (cwF gh hl hl) 0) = (ppBig hl true && fGt .f64 (cwF gh hl hl) 0) ∧ (ppBig hl true && !Prod.snd
(dcF gh hl hl)) = (ppBig hl true && !(dcF gh hl hl).2) ∧ (0 : Int) = 0 ∧ True ∧ pick (ppBig hl true) (rlo gh 0 hl) =
 pick (ppBig hl true) (rlo gh 0 hl) ∧ pick (ppBig hl true) (rlo gh 1 hl) = pick (ppBig hl
 true) (rlo gh 1 hl) ∧ pick (ppBig hl true) (rhi gh 0 hl) = pick (ppBig hl true) (rhi gh 0 hl) ∧
 pick (ppBig hl true) (rhi gh 1 hl) = pick (ppBig hl true) (rhi gh 1 hl) ∧ (True ∧ hl = hl) ∧ True) ∧ True ∧ (100 =
100 ∧ 2 = 2 ∧ 2 * hl ≤ 2 * hl ∧ ∀ (i : Nat), i < 2 * hl → gh i = gh i) ∧ True) ∧ (true = false → (True ∧ 0 = 0) ∧ True ∧ (137 = 137 ∧ 0 = 0 ∧ (True ∧ 0 = 0) ∧ (True ∧ 1 = 1) ∧ True) ∧ True ∧ (106 = 106 ∧ 1 = 1 ∧ False ∧ True) ∧ True ∧ (150 = 150 ∧ 0 = 0 ∧ true = true ∧ (ppBig len true &&
 fGt .f64 (cwF g len len) 0) = (ppBig len true && fGt .f64 (cwF g len len) 0) ∧ (ppBig len true && !(dcF g len len).2) =
(ppBig len true && !(dcF g len len).2) ∧ (0 : Int) = 0 ∧ True ∧ pick (ppBig len true) (rlo g 0 len) = pick
(ppBig len true) (rlo g 0 len) ∧ pick (ppBig len true) (rlo g 1 len) = pick (ppBig len true)
(rlo g 1 len) ∧ pick (ppBig len true) (rhi g 0 len) = pick (ppBig len true) (rhi g 0 len) ∧
 pick (ppBig len true) (rhi g 1 len) = pick (ppBig len true) (rhi g 1 len) ∧ (True ∧ len = len) ∧ True) ∧ True ∧ (100 =
100 ∧ 2 = 2 ∧ 2 * len ≤ 2 * len ∧ ∀ (i : Nat), i < 2 * len → g i = g i) ∧ True ∧ List.length (rectS hl true gh 9 (0 : Int)) = 0 ∧ True ∧ 2 * hl = 0 ∧
 True)) ∧ (∀ (_ : Nat), True → (false = true → False) ∧ (false = false → (True ∧ 0 = 0) ∧ True ∧ (137 = 137 ∧ 0 = 0 ∧ (True ∧ 0 = 0) ∧ (True ∧ 1 = 1) ∧ True) ∧ True ∧
(106 = 106 ∧ 1 = 1 ∧ (True ∧ 0 = 0) ∧ True) ∧ True ∧ (150 = 150 ∧ 0 = 0 ∧ true = true ∧ (ppBig len true && fGt .f64 (cwF g len
 len) 0) = (ppBig len true && fGt .f64 (cwF g len len) 0) ∧ (ppBig len true && !(dcF g len len).2) = (ppBig len true && !Prod.snd
(dcF g len len)) ∧ (0 : Int) = 0 ∧ True ∧ pick (ppBig len true) (rlo g 0 len) = pick (ppBig len true) (rlo g
0 len) ∧ pick (ppBig len true) (rlo g 1 len) = pick (ppBig len true) (rlo g 1 len) ∧ pick
(ppBig len true) (rhi g 0 len) = pick (ppBig len true) (rhi g 0 len) ∧ pick (ppBig len true)
(rhi g 1 len) = pick (ppBig len true) (rhi g 1 len) ∧ (True ∧ len = len) ∧ True) ∧ True ∧ (100 = 100 ∧ 2 = 2 ∧ 2 * len ≤
2 * len ∧ ∀ (i : Nat), i < 2 * len → g i = g i) ∧ True ∧ (150 = 150 ∧ 0 = 0 ∧ true = true ∧ (ppBig hl true && fGt .f64 (cwF gh hl hl) 0) =
(ppBig hl true && fGt .f64 (cwF gh hl hl) 0) ∧ (ppBig hl true && !(dcF gh hl hl).2) = (ppBig hl true && !(dcF gh
 hl hl).2) ∧ (0 : Int) = 0 ∧ True ∧ pick (ppBig hl true) (rlo gh 0 hl) = pick (ppBig hl true) (rlo gh 0 hl) ∧
 pick (ppBig hl true) (rlo gh 1 hl) = pick (ppBig hl true) (rlo gh 1 hl) ∧ pick (ppBig hl
 true) (rhi gh 0 hl) = pick (ppBig hl true) (rhi gh 0 hl) ∧ pick (ppBig hl true) (rhi gh 1 hl) =
 pick (ppBig hl true) (rhi gh 1 hl) ∧ (True ∧ hl = hl) ∧ True) ∧ True ∧ (100 = 100 ∧ 2 = 2 ∧ 2 * hl ≤ 2 * hl ∧ ∀ (i : Nat), i < 2 *
 hl → gh i = gh i) ∧ True)) ∧ True) ∧ (true = false → (True ∧ 0 = 0) ∧ True ∧ (137 = 137 ∧ 0 = 0 ∧ (True ∧ 0 = 0) ∧ 1 = 0 ∧ True) ∧ True ∧ 1 = 0 ∧ True ∧
(150 = 150 ∧ 0 = 0 ∧ true = true ∧ (ppBig len true && fGt .f64 (cwF g len len) 0) = (ppBig len true && fGt .f64 (cwF g len
 len) 0) ∧ (ppBig len true && !(dcF g len len).2) = (ppBig len true && !(dcF g len len).2) ∧ (0 : Int) = 0 ∧ True ∧ pick
(ppBig len true) (rlo g 0 len) = pick (ppBig len true) (rlo g 0 len) ∧ pick (ppBig len true)
(rlo g 1 len) = pick (ppBig len true) (rlo g 1 len) ∧ pick (ppBig len true) (rhi g 0 len) =
 pick (ppBig len true) (rhi g 0 len) ∧ pick (ppBig len true) (rhi g 1 len) = pick (ppBig
 len true) (rhi g 1 len) ∧ (True ∧ len = len) ∧ True) ∧ True ∧ (100 = 100 ∧ 2 = 2 ∧ 2 * len ≤ 2 * len ∧ ∀ (i : Nat), i < 2 * len → g i = g i) ∧ True ∧ List.length
(rectS hl true gh 9 (0 : Int)) = 0 ∧ True ∧ 2 * hl = 0 ∧ True)) := by kernel_rfl
theorem newPoly1 : ConOk Tryz.prog 91 (conR newPoly1C) := by
 refine con_of_vc gNP Tryz.func91 rfl (by kernel_rfl) fun args => ?_
 unfold newPoly1C
 split
 · rename_i n len h o
   intro o0
   show RdM.All _ (match fltsFrom .f64 o0.c with | some (m, g) => _ | none => _) _
   split
   · rename_i m0 g hm0
     intro o1
     show RdM.All _ (match holOf o1.c with | some (q, hl) => _ | none => _) _
     split
     · rename_i q hl hm1
       intro o2
       show RdM.All _ (match fltsFrom .f64 o2.c with | some (m, g) => _ | none => _) _
       split
       · rename_i m2 gh hm2
         intro o3
         show RdM.All _ (match optOf o3.c with | some (k, m) => _ | none => _) _
         split
         · rename_i k m hm3
           intro ho
           replace ho : m0 = 2 * len ∧ m2 = 2 * hl ∧ k = 0 ∧ (len ≤ 1000000 ∧ (ppBig len true = true → ppOk g len)) ∧ (hl ≤ 1000000 ∧ (ppBig hl true = true → ppOk gh hl)) := ho
           obtain ⟨hsz0, hsz2, ho⟩ := ho
           subst hsz0
           subst hsz2
           refine ⟨?_, _, _, (vc_newPoly1 len hl m k q g gh).mpr ?_⟩
           · refine okFlag_mk rfl ⟨?_, ⟨trivial, (contR_flts hm0).1, ⟨trivial, holOf_spec hm1 (by simp [sgSig, fsts, nth, sameN_self]), ⟨trivial, (contR_flts hm2).1, ⟨trivial, optOf_spec hm3, trivial⟩⟩⟩⟩⟩
             simp [eqvRL, eqvR, sgSig, fsts, nth, sameN_self]
           · obtain ⟨hk, ⟨h1, h2⟩, h3, h4⟩ := ho
             simp [hk, h1, h3]
             exact ⟨h2, h4⟩
         · trivial
       · trivial
     · trivial
   · trivial
 · trivial
def po0 : Cont → Option Nm
 | .cells [.ifc 157 (.ptr s 0), .nils] => some s
 | _ => none
theorem po0_spec {σ : Sig} {c : Cont} {p q : Nm} (h : po0 c = some p) (hs : sameN (σ q) p) : contR σ c (.cells [.ifc 157 (.ptr q 0), .nils]) := by
 unfold po0 at h
 split at h
 · simp only [Option.some.injEq] at h
   subst h
   show eqvRL σ _ _
   simp [eqvRL, eqvR, hs]
 · cases h
def poR : Cont → Option (Nat × Nat × Nat × Nat)
 | .cells [.ifc 102 (.agg [.flt .f64 a, .flt .f64 b, .flt .f64 c, .flt .f64 d]), .nils] => some (a, b, c, d)
 | _ => none
theorem poR_spec {σ : Sig} {c : Cont} {x y z w : Nat} (h : poR c = some (x, y, z, w)) : contR σ c (.cells [.ifc 102 (.agg [.flt .f64 x, .flt .f64 y, .flt .f64 z, .flt .f64 w]), .nils]) := by
 unfold poR at h
 split at h
 · simp only [Option.some.injEq, Prod.mk.injEq] at h
   obtain ⟨rfl, rfl, rfl, rfl⟩ := h
   show eqvRL σ _ _
   simp [eqvRL, eqvR, fkEq_self]
 · cases h
def secIs (t : Nat) : List SV → Bool
 | [_, .ifc u _, _] => Nat.beq u t
 | _ => false
noncomputable def rcr2 : Con := swC (secIs 157) (conR rcrSSC) (conR rcrSRC)
theorem rcr2_ok : ConOk Tryz.prog 213 rcr2 := ConOk.sw rcrSS rcrSR
noncomputable def rir2 : Con := swC (ifcIs 102) (conR rirRSC) (swC (secIs 157) (conR rirSSC) (conR rirSRC))
theorem rir2_ok : ConOk Tryz.prog 212 rir2 := ConOk.sw rirRS (ConOk.sw rirSS rirSR)
noncomputable def GPM : Ctx := ⟨⟨tys, []⟩, [(213, rcr2), (212, rir2), (201, conR rilSLC), (235, conR rclSLC)]⟩
theorem gPM : CtxOk Tryz.prog GPM := ⟨⟨tysOk, FlatsOk.nil⟩, GamOk.cons rcr2_ok (GamOk.cons rir2_ok (GamOk.cons rilSL (GamOk.cons rclSL GamOk.nil))), by kernel_rfl⟩
noncomputable def pcl0C : List SV → RdM
 | [.ptr P 0, .ptr l 0] => .read P fun o0 => (match po0 o0.c with
   | some s => .read s fun o1 => (match serOf o1.c with
   | some (cl, cw, cv, k, x, y, z, w, q, n) => .read q fun o2 => (match fltsFrom .f64 o2.c with
   | some (m2, g) => .read l fun o3 => (match serOf o3.c with
   | some (cll, cwl, cvl, kl, xl, yl, zl, wl, ql, nl) => .read ql fun o4 => (match fltsFrom .f64 o4.c with
   | some (m4, gl) => .ret ⟨[.ptr 0 0, .ptr 3 0], [(0, ⟨false, 137, .cells [.ifc 157 (.ptr 1 0), .nils], 0⟩), (1, ⟨false, 150, serC cl cw cv k x y z w 2 n, 0⟩), (2, ⟨false, 100, .flts .f64 m2 g, 0⟩), (3, ⟨false, 152, serC cll cwl cvl kl xl yl zl wl 4 nl, 0⟩), (4, ⟨false, 100, .flts .f64 m4 gl, 0⟩)], .bool (rcrS g n (nsg cl n (wz g)) cl cw cv x y z w gl nl (nsg cll nl (wz gl)) cll xl yl zl wl true), [], [], some (m2 = 2 * n ∧ m4 = 2 * nl ∧ ((n ≤ 1000000 ∧ SmF g (2 * n)) ∧ (W1 x ∧ W1 y ∧ W1 z ∧ W1 w)) ∧ ((nl ≤ 1000000 ∧ SmF gl (2 * nl)) ∧ (W1 xl ∧ W1 yl ∧ W1 zl ∧ W1 wl)))⟩
   | none => .fail)
   | none => .fail)
   | none => .fail)
   | none => .fail)
   | none => .fail)
 | _ => .fail
theorem vc_pcl0 (cl cw cv : Bool) (k : Int) (x y z w : Nat) (_ : Nm) (n : Nat) (_ : Nm) (cll cwl cvl : Bool) (kl : Int) (xl yl zl wl : Nat) (_ : Nm) (nl : Nat)  (g : Nat → Nat) (gl : Nat → Nat) : runA GPM 5 [(6, .unr [⟨Nat, fun _ => ⟨40, [(0, .ptr 0 0), (1, .ptr 3 0), (30, .nils), (31, .int .i64 0), (32, .int .i64 0)], [(0, ⟨false, 137, .cells [.ifc 157 (.ptr 1 0), .nils], 0⟩), (1, ⟨false, 150, serC cl cw cv k x y z w 2 n, 0⟩), (2, ⟨false, 100, .flts .f64 (2 * n) g, 0⟩), (3, ⟨false, 152, serC cll cwl cvl kl xl yl zl wl 4 nl, 0⟩), (4, ⟨false, 100, .flts .f64 (2 * nl) gl, 0⟩)], 5⟩, fun _ => rcrS g n (nsg cl n (wz g)) cl cw cv x y z w gl nl (nsg cll nl (wz gl)) cll xl yl zl wl true = true, fun _ => 0⟩])] [] (codeOf Tryz.f237) (init Tryz.f237.ntmps [.ptr 0 0, .ptr 3 0] [(0, ⟨false, 137, .cells [.ifc 157 (.ptr 1 0), .nils], 0⟩), (1, ⟨false, 150, serC cl cw cv k x y z w 2 n, 0⟩), (2, ⟨false, 100, .flts .f64 (2 * n) g, 0⟩), (3, ⟨false, 152, serC cll cwl cvl kl xl yl zl wl 4 nl, 0⟩), (4, ⟨false, 100, .flts .f64 (2 * nl) gl, 0⟩)] 5) (endK GPM.E.T Tryz.f237.results.toList fun S v => postP 5 ⟨[.ptr 0 0, .ptr 3 0], [(0, ⟨false, 137, .cells [.ifc 157 (.ptr 1 0), .nils], 0⟩), (1, ⟨false, 150, serC cl cw cv k x y z w 2 n, 0⟩), (2, ⟨false, 100, .flts .f64 (2 * n) g, 0⟩), (3, ⟨false, 152, serC cll cwl cvl kl xl yl zl wl 4 nl, 0⟩), (4, ⟨false, 100, .flts .f64 (2 * nl) gl, 0⟩)], .bool (rcrS g n (nsg cl n (wz g)) cl cw cv x y z w gl nl (nsg cll nl (wz gl)) cll xl yl zl wl true), [], [], some (2 * n = 2 * n ∧ 2 * nl = 2 * nl ∧ ((n ≤ 1000000 ∧ SmF g (2 * n)) ∧ (W1 x ∧ W1 y ∧ W1 z ∧ W1 w)) ∧ ((nl ≤ 1000000 ∧ SmF gl (2 * nl)) ∧ (W1 xl ∧ W1 yl ∧ W1 zl ∧ W1 wl)))⟩ S v) = (
(2 * n = 2 * n ∧ 2 * nl = 2 * nl ∧ (n ≤ 1000000 ∧ SmF g (2 * n)) ∧ (nl ≤ 1000000 ∧ SmF gl (2 * nl)) ∧ W1 xl ∧ W1
 yl ∧ W1 zl ∧ W1 wl) ∧ ((!rcrS g n (nsg cl n (wz g)) cl cw cv x y z w gl nl (nsg cll nl (wz gl)) cll xl yl zl wl true) = true
→ rcrS g n (nsg cl n (wz g)) cl cw cv x y z w gl nl (nsg cll nl (wz gl)) cll xl yl zl wl true = false ∧ True) ∧ ((!rcrS g n
(nsg cl n (wz g)) cl cw cv x y z w gl nl (nsg cll nl (wz gl)) cll xl yl zl wl true) = false → (∃ (_ : Nat), rcrS g n (nsg cl n
(wz g)) cl cw cv x y z w gl nl (nsg cll nl (wz gl)) cll xl yl zl wl true = true ∧ ((True ∧ 0 = 0) ∧ (True ∧ 0 = 0) ∧ True ∧ (0 : Int) = 0 ∧ (0 : Int) = (0 :
 Int) ∧ True) ∧ True ∧ ((True ∧ 0 = 0) ∧ True ∧ True) ∧ True ∧ (cl = cl ∧ cw = cw ∧ cv = cv ∧ k = k ∧ True ∧ x = x ∧ y = y ∧ z = z ∧ w = w ∧ (True ∧ n = n) ∧ True) ∧ True ∧ (2 * n ≤ 2 * n ∧ ∀ (i : Nat), i < 2 *
 n → g i = g i) ∧ True ∧ (cll = cll ∧ cwl = cwl ∧ cvl = cvl ∧ kl = kl ∧ True ∧ xl = xl ∧ yl = yl ∧ zl = zl ∧ wl = wl ∧ (True ∧ nl = nl) ∧ True) ∧ True ∧ (2 * nl ≤ 2 * nl ∧ ∀ (i : Nat), i < 2 * nl → gl i = gl i) ∧ True) ∧ (∀ (_
: Nat), rcrS g n (nsg cl n (wz g)) cl cw cv x y z w gl nl (nsg cll nl (wz gl)) cll xl yl zl wl true = true → (false = true → False) ∧ (false = false →
 rcrS g n (nsg cl n (wz g)) cl cw cv x y z w gl nl (nsg cll nl (wz gl)) cll xl yl zl wl true = true ∧ True)) ∧ True)) := by kernel_rfl
theorem pcl0 : ConOk Tryz.prog 237 (conR pcl0C) := by
 refine con_of_vc gPM Tryz.func237 rfl (by kernel_rfl) fun args => ?_
 unfold pcl0C
 split
 · rename_i P l
   intro o0
   show RdM.All _ (match po0 o0.c with | some s => _ | none => _) _
   split
   · rename_i s hm0
     intro o1
     show RdM.All _ (match serOf o1.c with | some (cl, cw, cv, k, x, y, z, w, q, n) => _ | none => _) _
     split
     · rename_i cl cw cv k x y z w q n hm1
       intro o2
       show RdM.All _ (match fltsFrom .f64 o2.c with | some (m, g) => _ | none => _) _
       split
       · rename_i m2 g hm2
         intro o3
         show RdM.All _ (match serOf o3.c with | some (cll, cwl, cvl, kl, xl, yl, zl, wl, ql, nl) => _ | none => _) _
         split
         · rename_i cll cwl cvl kl xl yl zl wl ql nl hm3
           intro o4
           show RdM.All _ (match fltsFrom .f64 o4.c with | some (m, g) => _ | none => _) _
           split
           · rename_i m4 gl hm4
             intro ho
             replace ho : m2 = 2 * n ∧ m4 = 2 * nl ∧ ((n ≤ 1000000 ∧ SmF g (2 * n)) ∧ (W1 x ∧ W1 y ∧ W1 z ∧ W1 w)) ∧ ((nl ≤ 1000000 ∧ SmF gl (2 * nl)) ∧ (W1 xl ∧ W1 yl ∧ W1 zl ∧ W1 wl)) := ho
             obtain ⟨hsz2, hsz4, ho⟩ := ho
             subst hsz2
             subst hsz4
             refine ⟨?_, _, _, (vc_pcl0 cl cw cv k x y z w q n s cll cwl cvl kl xl yl zl wl ql nl g gl).mpr ?_⟩
             · refine okFlag_mk rfl ⟨?_, ⟨trivial, po0_spec hm0 (by simp [sgSig, fsts, nth, sameN_self]), ⟨trivial, serOf_spec hm1 (by simp [sgSig, fsts, nth, sameN_self]), ⟨trivial, (contR_flts hm2).1, ⟨trivial, serOf_spec hm3 (by simp [sgSig, fsts, nth, sameN_self]), ⟨trivial, (contR_flts hm4).1, trivial⟩⟩⟩⟩⟩⟩
               simp [eqvRL, eqvR, sgSig, fsts, nth, sameN_self]
             · generalize hv : (rcrS g n (nsg cl n (wz g)) cl cw cv x y z w gl nl (nsg cll nl (wz gl)) cll xl yl zl wl true) = r
               cases r <;> simp [ho]
           · trivial
         · trivial
       · trivial
     · trivial
   · trivial
 · trivial
noncomputable def pil0C : List SV → RdM
 | [.ptr P 0, .ptr l 0] => .read P fun o0 => (match po0 o0.c with
   | some s => .read s fun o1 => (match serOf o1.c with
   | some (cl, cw, cv, k, x, y, z, w, q, n) => .read q fun o2 => (match fltsFrom .f64 o2.c with
   | some (m2, g) => .read l fun o3 => (match serOf o3.c with
   | some (cll, cwl, cvl, kl, xl, yl, zl, wl, ql, nl) => .read ql fun o4 => (match fltsFrom .f64 o4.c with
   | some (m4, gl) => .ret ⟨[.ptr 0 0, .ptr 3 0], [(0, ⟨false, 137, .cells [.ifc 157 (.ptr 1 0), .nils], 0⟩), (1, ⟨false, 150, serC cl cw cv k x y z w 2 n, 0⟩), (2, ⟨false, 100, .flts .f64 m2 g, 0⟩), (3, ⟨false, 152, serC cll cwl cvl kl xl yl zl wl 4 nl, 0⟩), (4, ⟨false, 100, .flts .f64 m4 gl, 0⟩)], .bool (rilS g n (nsg cl n (wz g)) cl x y z w gl nl (nsg cll nl (wz gl)) cll xl yl zl wl true), [], [], some (m2 = 2 * n ∧ m4 = 2 * nl ∧ ((n ≤ 1000000 ∧ SmF g (2 * n)) ∧ (W1 x ∧ W1 y ∧ W1 z ∧ W1 w)) ∧ ((nl ≤ 1000000 ∧ SmF gl (2 * nl)) ∧ (W1 xl ∧ W1 yl ∧ W1 zl ∧ W1 wl)))⟩
   | none => .fail)
   | none => .fail)
   | none => .fail)
   | none => .fail)
   | none => .fail)
 | _ => .fail
theorem vc_pil0 (cl cw cv : Bool) (k : Int) (x y z w : Nat) (_ : Nm) (n : Nat) (_ : Nm) (cll cwl cvl : Bool) (kl : Int) (xl yl zl wl : Nat) (_ : Nm) (nl : Nat)  (g : Nat → Nat) (gl : Nat → Nat) : runA GPM 5 [(6, .unr [⟨Nat, fun _ => ⟨40, [(0, .ptr 0 0), (1, .ptr 3 0), (30, .nils), (31, .int .i64 0), (32, .int .i64 0)], [(0, ⟨false, 137, .cells [.ifc 157 (.ptr 1 0), .nils], 0⟩), (1, ⟨false, 150, serC cl cw cv k x y z w 2 n, 0⟩), (2, ⟨false, 100, .flts .f64 (2 * n) g, 0⟩), (3, ⟨false, 152, serC cll cwl cvl kl xl yl zl wl 4 nl, 0⟩), (4, ⟨false, 100, .flts .f64 (2 * nl) gl, 0⟩)], 5⟩, fun _ => rilS g n (nsg cl n (wz g)) cl x y z w gl nl (nsg cll nl (wz gl)) cll xl yl zl wl true = true, fun _ => 0⟩])] [] (codeOf Tryz.f233) (init Tryz.f233.ntmps [.ptr 0 0, .ptr 3 0] [(0, ⟨false, 137, .cells [.ifc 157 (.ptr 1 0), .nils], 0⟩), (1, ⟨false, 150, serC cl cw cv k x y z w 2 n, 0⟩), (2, ⟨false, 100, .flts .f64 (2 * n) g, 0⟩), (3, ⟨false, 152, serC cll cwl cvl kl xl yl zl wl 4 nl, 0⟩), (4, ⟨false, 100, .flts .f64 (2 * nl) gl, 0⟩)] 5) (endK GPM.E.T Tryz.f233.results.toList fun S v => postP 5 ⟨[.ptr 0 0, .ptr 3 0], [(0, ⟨false, 137, .cells [.ifc 157 (.ptr 1 0), .nils], 0⟩), (1, ⟨false, 150, serC cl cw cv k x y z w 2 n, 0⟩), (2, ⟨false, 100, .flts .f64 (2 * n) g, 0⟩), (3, ⟨false, 152, serC cll cwl cvl kl xl yl zl wl 4 nl, 0⟩), (4, ⟨false, 100, .flts .f64 (2 * nl) gl, 0⟩)], .bool (rilS g n (nsg cl n (wz g)) cl x y z w gl nl (nsg cll nl (wz gl)) cll xl yl zl wl true), [], [], some (2 * n = 2 * n ∧ 2 * nl = 2 * nl ∧ ((n ≤ 1000000 ∧ SmF g (2 * n)) ∧ (W1 x ∧ W1 y ∧ W1 z ∧ W1 w)) ∧ ((nl ≤ 1000000 ∧ SmF gl (2 * nl)) ∧ (W1 xl ∧ W1 yl ∧ W1 zl ∧ W1 wl)))⟩ S v) = (
(2 * n = 2 * n ∧ 2 * nl = 2 * nl ∧ (n ≤ 1000000 ∧ SmF g (2 * n)) ∧ nl ≤ 1000000 ∧ SmF gl (2 * nl)) ∧ ((!rilS g n
(nsg cl n (wz g)) cl x y z w gl nl (nsg cll nl (wz gl)) cll xl yl zl wl true) = true → rilS g n (nsg cl n (wz g)) cl x y z w
 gl nl (nsg cll nl (wz gl)) cll xl yl zl wl true = false ∧ True) ∧ ((!rilS g n (nsg cl n (wz g)) cl x y z w gl nl (nsg cll nl
(wz gl)) cll xl yl zl wl true) = false → (∃ (_ : Nat), rilS g n (nsg cl n (wz g)) cl x y z w gl nl (nsg cll nl (wz gl)) cll xl yl zl wl true =
 true ∧ ((True ∧ 0 = 0) ∧ (True ∧ 0 = 0) ∧ True ∧ (0 : Int) = 0 ∧ (0 : Int) = 0 ∧ True) ∧ True ∧ ((True ∧ 0 = 0) ∧ True ∧ True) ∧ True ∧ (cl = cl ∧ cw = cw ∧ cv = cv ∧ k = k ∧ True ∧ x =
 x ∧ y = y ∧ z = z ∧ w = w ∧ (True ∧ n = n) ∧ True) ∧ True ∧ (2 * n ≤ 2 * n ∧ ∀ (i : Nat), i < 2 * n → g i = g i) ∧ True ∧ (cll = cll ∧ cwl = cwl ∧ cvl = cvl ∧ kl = kl ∧ True ∧ xl = xl ∧ yl = yl ∧ zl = zl ∧ wl = wl ∧ (True ∧ nl
= nl) ∧ True) ∧ True ∧ (2 * nl ≤ 2 * nl ∧ ∀ (i : Nat), i < 2 * nl → gl i = gl i) ∧ True) ∧ (∀ (_ : Nat), rilS g n (nsg cl n (wz g)) cl x y z w gl nl (nsg
 cll nl (wz gl)) cll xl yl zl wl true = true → (false = true → False) ∧ (false = false → rilS g n (nsg cl n (wz g)) cl x y z w gl nl (nsg cll nl
(wz gl)) cll xl yl zl wl true = true ∧ True)) ∧ True)) := by kernel_rfl
theorem pil0 : ConOk Tryz.prog 233 (conR pil0C) := by
 refine con_of_vc gPM Tryz.func233 rfl (by kernel_rfl) fun args => ?_
 unfold pil0C
 split
 · rename_i P l
   intro o0
   show RdM.All _ (match po0 o0.c with | some s => _ | none => _) _
   split
   · rename_i s hm0
     intro o1
     show RdM.All _ (match serOf o1.c with | some (cl, cw, cv, k, x, y, z, w, q, n) => _ | none => _) _
     split
     · rename_i cl cw cv k x y z w q n hm1
       intro o2
       show RdM.All _ (match fltsFrom .f64 o2.c with | some (m, g) => _ | none => _) _
       split
       · rename_i m2 g hm2
         intro o3
         show RdM.All _ (match serOf o3.c with | some (cll, cwl, cvl, kl, xl, yl, zl, wl, ql, nl) => _ | none => _) _
         split
         · rename_i cll cwl cvl kl xl yl zl wl ql nl hm3
           intro o4
           show RdM.All _ (match fltsFrom .f64 o4.c with | some (m, g) => _ | none => _) _
           split
           · rename_i m4 gl hm4
             intro ho
             replace ho : m2 = 2 * n ∧ m4 = 2 * nl ∧ ((n ≤ 1000000 ∧ SmF g (2 * n)) ∧ (W1 x ∧ W1 y ∧ W1 z ∧ W1 w)) ∧ ((nl ≤ 1000000 ∧ SmF gl (2 * nl)) ∧ (W1 xl ∧ W1 yl ∧ W1 zl ∧ W1 wl)) := ho
             obtain ⟨hsz2, hsz4, ho⟩ := ho
             subst hsz2
             subst hsz4
             refine ⟨?_, _, _, (vc_pil0 cl cw cv k x y z w q n s cll cwl cvl kl xl yl zl wl ql nl g gl).mpr ?_⟩
             · refine okFlag_mk rfl ⟨?_, ⟨trivial, po0_spec hm0 (by simp [sgSig, fsts, nth, sameN_self]), ⟨trivial, serOf_spec hm1 (by simp [sgSig, fsts, nth, sameN_self]), ⟨trivial, (contR_flts hm2).1, ⟨trivial, serOf_spec hm3 (by simp [sgSig, fsts, nth, sameN_self]), ⟨trivial, (contR_flts hm4).1, trivial⟩⟩⟩⟩⟩⟩
               simp [eqvRL, eqvR, sgSig, fsts, nth, sameN_self]
             · generalize hv : (rilS g n (nsg cl n (wz g)) cl x y z w gl nl (nsg cll nl (wz gl)) cll xl yl zl wl true) = r
               cases r <;> simp [ho]
           · trivial
         · trivial
       · trivial
     · trivial
   · trivial
 · trivial
noncomputable def pcp0C : List SV → RdM
 | [.ptr P 0, .ptr Y 0] => .read P fun o0 => (match po0 o0.c with
   | some s => .read s fun o1 => (match serOf o1.c with
   | some (cl, cw, cv, k, x, y, z, w, q, n) => .read q fun o2 => (match fltsFrom .f64 o2.c with
   | some (m2, g) => .read Y fun o3 => (match po0 o3.c with
   | some sy => .read sy fun o4 => (match serOf o4.c with
   | some (cly, cwy, cvy, ky, xy, yy, zy, wy, qy, ny) => .read qy fun o5 => (match fltsFrom .f64 o5.c with
   | some (m5, gy) => .ret ⟨[.ptr 0 0, .ptr 3 0], [(0, ⟨false, 137, .cells [.ifc 157 (.ptr 1 0), .nils], 0⟩), (1, ⟨false, 150, serC cl cw cv k x y z w 2 n, 0⟩), (2, ⟨false, 100, .flts .f64 m2 g, 0⟩), (3, ⟨false, 137, .cells [.ifc 157 (.ptr 4 0), .nils], 0⟩), (4, ⟨false, 150, serC cly cwy cvy ky xy yy zy wy 5 ny, 0⟩), (5, ⟨false, 100, .flts .f64 m5 gy, 0⟩)], .bool (rcrS g n (nsg cl n (wz g)) cl cw cv x y z w gy ny (nsg cly ny (wz gy)) cly xy yy zy wy true), [], [], some (m2 = 2 * n ∧ m5 = 2 * ny ∧ ((n ≤ 1000000 ∧ SmF g (2 * n)) ∧ (W1 x ∧ W1 y ∧ W1 z ∧ W1 w)) ∧ ((ny ≤ 1000000 ∧ SmF gy (2 * ny)) ∧ (W1 xy ∧ W1 yy ∧ W1 zy ∧ W1 wy)))⟩
   | none => .fail)
   | none => .fail)
   | none => .fail)
   | none => .fail)
   | none => .fail)
   | none => .fail)
 | _ => .fail
theorem vc_pcp0 (cl cw cv : Bool) (k : Int) (x y z w : Nat) (_ : Nm) (n : Nat) (_ : Nm) (cly cwy cvy : Bool) (ky : Int) (xy yy zy wy : Nat) (_ : Nm) (ny : Nat) (_ : Nm)  (g : Nat → Nat) (gy : Nat → Nat) : runA GPM 6 [(7, .unr [⟨Nat, fun _ => ⟨72, [(0, .ptr 0 0), (1, .ptr 3 0), (5, .tt), (43, .nils), (44, .int .i64 0), (45, .int .i64 0)], [(0, ⟨false, 137, .cells [.ifc 157 (.ptr 1 0), .nils], 0⟩), (1, ⟨false, 150, serC cl cw cv k x y z w 2 n, 0⟩), (2, ⟨false, 100, .flts .f64 (2 * n) g, 0⟩), (3, ⟨false, 137, .cells [.ifc 157 (.ptr 4 0), .nils], 0⟩), (4, ⟨false, 150, serC cly cwy cvy ky xy yy zy wy 5 ny, 0⟩), (5, ⟨false, 100, .flts .f64 (2 * ny) gy, 0⟩)], 6⟩, fun _ => rcrS g n (nsg cl n (wz g)) cl cw cv x y z w gy ny (nsg cly ny (wz gy)) cly xy yy zy wy true = true, fun _ => 0⟩])] [] (codeOf Tryz.f238) (init Tryz.f238.ntmps [.ptr 0 0, .ptr 3 0] [(0, ⟨false, 137, .cells [.ifc 157 (.ptr 1 0), .nils], 0⟩), (1, ⟨false, 150, serC cl cw cv k x y z w 2 n, 0⟩), (2, ⟨false, 100, .flts .f64 (2 * n) g, 0⟩), (3, ⟨false, 137, .cells [.ifc 157 (.ptr 4 0), .nils], 0⟩), (4, ⟨false, 150, serC cly cwy cvy ky xy yy zy wy 5 ny, 0⟩), (5, ⟨false, 100, .flts .f64 (2 * ny) gy, 0⟩)] 6) (endK GPM.E.T Tryz.f238.results.toList fun S v => postP 6 ⟨[.ptr 0 0, .ptr 3 0], [(0, ⟨false, 137, .cells [.ifc 157 (.ptr 1 0), .nils], 0⟩), (1, ⟨false, 150, serC cl cw cv k x y z w 2 n, 0⟩), (2, ⟨false, 100, .flts .f64 (2 * n) g, 0⟩), (3, ⟨false, 137, .cells [.ifc 157 (.ptr 4 0), .nils], 0⟩), (4, ⟨false, 150, serC cly cwy cvy ky xy yy zy wy 5 ny, 0⟩), (5, ⟨false, 100, .flts .f64 (2 * ny) gy, 0⟩)], .bool (rcrS g n (nsg cl n (wz g)) cl cw cv x y z w gy ny (nsg cly ny (wz gy)) cly xy yy zy wy true), [], [], some (2 * n = 2 * n ∧ 2 * ny = 2 * ny ∧ ((n ≤ 1000000 ∧ SmF g (2 * n)) ∧ (W1 x ∧ W1 y ∧ W1 z ∧ W1 w)) ∧ ((ny ≤ 1000000 ∧ SmF gy (2 * ny)) ∧ (W1 xy ∧ W1 yy ∧ W1 zy ∧ W1 wy)))⟩ S v) = (
(2 * n = 2 * n ∧ 2 * ny = 2 * ny ∧ (n ≤ 1000000 ∧ SmF g (2 * n)) ∧ (ny ≤ 1000000 ∧ SmF gy (2 * ny)) ∧ W1 xy ∧ W1
 yy ∧ W1 zy ∧ W1 wy) ∧ true = true ∧ ((!rcrS g n (nsg cl n (wz g)) cl cw cv x y z w gy ny (nsg cly ny (wz gy)) cly xy yy zy
 wy true) = true → rcrS g n (nsg cl n (wz g)) cl cw cv x y z w gy ny (nsg cly ny (wz gy)) cly xy yy zy wy true = false ∧ True) ∧ ((!rcrS g n
(nsg cl n (wz g)) cl cw cv x y z w gy ny (nsg cly ny (wz gy)) cly xy yy zy wy true) = false → (∃ (_ : Nat), rcrS g n (nsg cl n
(wz g)) cl cw cv x y z w gy ny (nsg cly ny (wz gy)) cly xy yy zy wy true = true ∧ ((True ∧ 0 = 0) ∧ (True ∧ 0 = 0) ∧ True ∧ True ∧ (0 : Int) = 0 ∧ (0 : Int)
= (0 : Int) ∧ True) ∧ True ∧ ((True ∧ 0 = 0) ∧ True ∧ True) ∧ True ∧ (cl = cl ∧ cw = cw ∧ cv = cv ∧ k = k ∧ True ∧ x = x ∧ y = y ∧ z = z ∧ w = w ∧ (True ∧ n = n) ∧ True) ∧ True ∧ (2 * n ≤ 2 * n ∧ ∀ (i : Nat), i < 2 * n → g i = g i) ∧ True ∧ ((True ∧ 0 = 0) ∧ True ∧ True) ∧ True ∧ (cly = cly ∧ cwy = cwy ∧ cvy = cvy ∧ ky = ky ∧ True ∧ xy = xy ∧ yy = yy ∧ zy = zy ∧ wy = wy ∧ (True ∧ ny = ny) ∧ True) ∧ True ∧ (2 * ny ≤ 2 * ny ∧
∀ (i : Nat), i < 2 * ny → gy i = gy i) ∧ True) ∧ (∀ (_ : Nat), rcrS g n (nsg cl n (wz g)) cl cw cv x y z w gy ny (nsg cly ny (wz gy)) cly xy yy zy wy
 true = true → (false = true → False) ∧ (false = false → rcrS g n (nsg cl n (wz g)) cl cw cv x y z w gy ny (nsg cly ny (wz gy)) cly xy yy zy wy true = true ∧
 True)) ∧ True)) := by kernel_rfl
theorem pcp0 : ConOk Tryz.prog 238 (conR pcp0C) := by
 refine con_of_vc gPM Tryz.func238 rfl (by kernel_rfl) fun args => ?_
 unfold pcp0C
 split
 · rename_i P Y
   intro o0
   show RdM.All _ (match po0 o0.c with | some s => _ | none => _) _
   split
   · rename_i s hm0
     intro o1
     show RdM.All _ (match serOf o1.c with | some (cl, cw, cv, k, x, y, z, w, q, n) => _ | none => _) _
     split
     · rename_i cl cw cv k x y z w q n hm1
       intro o2
       show RdM.All _ (match fltsFrom .f64 o2.c with | some (m, g) => _ | none => _) _
       split
       · rename_i m2 g hm2
         intro o3
         show RdM.All _ (match po0 o3.c with | some sy => _ | none => _) _
         split
         · rename_i sy hm3
           intro o4
           show RdM.All _ (match serOf o4.c with | some (cly, cwy, cvy, ky, xy, yy, zy, wy, qy, ny) => _ | none => _) _
           split
           · rename_i cly cwy cvy ky xy yy zy wy qy ny hm4
             intro o5
             show RdM.All _ (match fltsFrom .f64 o5.c with | some (m, g) => _ | none => _) _
             split
             · rename_i m5 gy hm5
               intro ho
               replace ho : m2 = 2 * n ∧ m5 = 2 * ny ∧ ((n ≤ 1000000 ∧ SmF g (2 * n)) ∧ (W1 x ∧ W1 y ∧ W1 z ∧ W1 w)) ∧ ((ny ≤ 1000000 ∧ SmF gy (2 * ny)) ∧ (W1 xy ∧ W1 yy ∧ W1 zy ∧ W1 wy)) := ho
               obtain ⟨hsz2, hsz5, ho⟩ := ho
               subst hsz2
               subst hsz5
               refine ⟨?_, _, _, (vc_pcp0 cl cw cv k x y z w q n s cly cwy cvy ky xy yy zy wy qy ny sy g gy).mpr ?_⟩
               · refine okFlag_mk rfl ⟨?_, ⟨trivial, po0_spec hm0 (by simp [sgSig, fsts, nth, sameN_self]), ⟨trivial, serOf_spec hm1 (by simp [sgSig, fsts, nth, sameN_self]), ⟨trivial, (contR_flts hm2).1, ⟨trivial, po0_spec hm3 (by simp [sgSig, fsts, nth, sameN_self]), ⟨trivial, serOf_spec hm4 (by simp [sgSig, fsts, nth, sameN_self]), ⟨trivial, (contR_flts hm5).1, trivial⟩⟩⟩⟩⟩⟩⟩
                 simp [eqvRL, eqvR, sgSig, fsts, nth, sameN_self]
               · generalize hv : (rcrS g n (nsg cl n (wz g)) cl cw cv x y z w gy ny (nsg cly ny (wz gy)) cly xy yy zy wy true) = r
                 cases r <;> simp [ho]
             · trivial
           · trivial
         · trivial
       · trivial
     · trivial
   · trivial
 · trivial
noncomputable def pip0C : List SV → RdM
 | [.ptr P 0, .ptr Y 0] => .read P fun o0 => (match po0 o0.c with
   | some s => .read s fun o1 => (match serOf o1.c with
   | some (cl, cw, cv, k, x, y, z, w, q, n) => .read q fun o2 => (match fltsFrom .f64 o2.c with
   | some (m2, g) => .read Y fun o3 => (match po0 o3.c with
   | some sy => .read sy fun o4 => (match serOf o4.c with
   | some (cly, cwy, cvy, ky, xy, yy, zy, wy, qy, ny) => .read qy fun o5 => (match fltsFrom .f64 o5.c with
   | some (m5, gy) => .ret ⟨[.ptr 0 0, .ptr 3 0], [(0, ⟨false, 137, .cells [.ifc 157 (.ptr 1 0), .nils], 0⟩), (1, ⟨false, 150, serC cl cw cv k x y z w 2 n, 0⟩), (2, ⟨false, 100, .flts .f64 m2 g, 0⟩), (3, ⟨false, 137, .cells [.ifc 157 (.ptr 4 0), .nils], 0⟩), (4, ⟨false, 150, serC cly cwy cvy ky xy yy zy wy 5 ny, 0⟩), (5, ⟨false, 100, .flts .f64 m5 gy, 0⟩)], .bool (rirB (emp cly ny) (emp cl n) (mt4 xy yy zy wy x y z w) (fGt .f64 (arF x y z w) (arF xy yy zy wy)) (anyB (sIs g n (nsg cl n (wz g)) x y z w gy ny true) (nsg cly ny (wz gy))) (anyB (sIs gy ny (nsg cly ny (wz gy)) xy yy zy wy g n true) (nsg cl n (wz g)))), [], [], some (m2 = 2 * n ∧ m5 = 2 * ny ∧ ((n ≤ 1000000 ∧ SmF g (2 * n)) ∧ (W1 x ∧ W1 y ∧ W1 z ∧ W1 w)) ∧ ((ny ≤ 1000000 ∧ SmF gy (2 * ny)) ∧ (W1 xy ∧ W1 yy ∧ W1 zy ∧ W1 wy)))⟩
   | none => .fail)
   | none => .fail)
   | none => .fail)
   | none => .fail)
   | none => .fail)
   | none => .fail)
 | _ => .fail
theorem vc_pip0 (cl cw cv : Bool) (k : Int) (x y z w : Nat) (_ : Nm) (n : Nat) (_ : Nm) (cly cwy cvy : Bool) (ky : Int) (xy yy zy wy : Nat) (_ : Nm) (ny : Nat) (_ : Nm)  (g : Nat → Nat) (gy : Nat → Nat) : runA GPM 6 [(6, .unr [⟨Nat, fun _ => ⟨71, [(0, .ptr 0 0), (1, .ptr 3 0), (42, .nils), (43, .int .i64 0), (44, .int .i64 0)], [(0, ⟨false, 137, .cells [.ifc 157 (.ptr 1 0), .nils], 0⟩), (1, ⟨false, 150, serC cl cw cv k x y z w 2 n, 0⟩), (2, ⟨false, 100, .flts .f64 (2 * n) g, 0⟩), (3, ⟨false, 137, .cells [.ifc 157 (.ptr 4 0), .nils], 0⟩), (4, ⟨false, 150, serC cly cwy cvy ky xy yy zy wy 5 ny, 0⟩), (5, ⟨false, 100, .flts .f64 (2 * ny) gy, 0⟩)], 6⟩, fun _ => rirB (emp cly ny) (emp cl n) (mt4 xy yy zy wy x y z w) (fGt .f64 (arF x y z w) (arF xy yy zy wy)) (anyB (sIs g n (nsg cl n (wz g)) x y z w gy ny true) (nsg cly ny (wz gy))) (anyB (sIs gy ny (nsg cly ny (wz gy)) xy yy zy wy g n true) (nsg cl n (wz g))) = true, fun _ => 0⟩]), (12, .unr [⟨Nat, fun _ => ⟨71, [(0, .ptr 0 0), (1, .ptr 3 0), (58, .nils), (59, .int .i64 0), (60, .int .i64 0)], [(0, ⟨false, 137, .cells [.ifc 157 (.ptr 1 0), .nils], 0⟩), (1, ⟨false, 150, serC cl cw cv k x y z w 2 n, 0⟩), (2, ⟨false, 100, .flts .f64 (2 * n) g, 0⟩), (3, ⟨false, 137, .cells [.ifc 157 (.ptr 4 0), .nils], 0⟩), (4, ⟨false, 150, serC cly cwy cvy ky xy yy zy wy 5 ny, 0⟩), (5, ⟨false, 100, .flts .f64 (2 * ny) gy, 0⟩)], 6⟩, fun _ => rirB (emp cly ny) (emp cl n) (mt4 xy yy zy wy x y z w) (fGt .f64 (arF x y z w) (arF xy yy zy wy)) (anyB (sIs g n (nsg cl n (wz g)) x y z w gy ny true) (nsg cly ny (wz gy))) (anyB (sIs gy ny (nsg cly ny (wz gy)) xy yy zy wy g n true) (nsg cl n (wz g))) = true, fun _ => 0⟩])] [] (codeOf Tryz.f208) (init Tryz.f208.ntmps [.ptr 0 0, .ptr 3 0] [(0, ⟨false, 137, .cells [.ifc 157 (.ptr 1 0), .nils], 0⟩), (1, ⟨false, 150, serC cl cw cv k x y z w 2 n, 0⟩), (2, ⟨false, 100, .flts .f64 (2 * n) g, 0⟩), (3, ⟨false, 137, .cells [.ifc 157 (.ptr 4 0), .nils], 0⟩), (4, ⟨false, 150, serC cly cwy cvy ky xy yy zy wy 5 ny, 0⟩), (5, ⟨false, 100, .flts .f64 (2 * ny) gy, 0⟩)] 6) (endK GPM.E.T Tryz.f208.results.toList fun S v => postP 6 ⟨[.ptr 0 0, .ptr 3 0], [(0, ⟨false, 137, .cells [.ifc 157 (.ptr 1 0), .nils], 0⟩), (1, ⟨false, 150, serC cl cw cv k x y z w 2 n, 0⟩), (2, ⟨false, 100, .flts .f64 (2 * n) g, 0⟩), (3, ⟨false, 137, .cells [.ifc 157 (.ptr 4 0), .nils], 0⟩), (4, ⟨false, 150, serC cly cwy cvy ky xy yy zy wy 5 ny, 0⟩), (5, ⟨false, 100, .flts .f64 (2 * ny) gy, 0⟩)], .bool (rirB (emp cly ny) (emp cl n) (mt4 xy yy zy wy x y z w) (fGt .f64 (arF x y z w) (arF xy yy zy wy)) (anyB (sIs g n (nsg cl n (wz g)) x y z w gy ny true) (nsg cly ny (wz gy))) (anyB (sIs gy ny (nsg cly ny (wz gy)) xy yy zy wy g n true) (nsg cl n (wz g)))), [], [], some (2 * n = 2 * n ∧ 2 * ny = 2 * ny ∧ ((n ≤ 1000000 ∧ SmF g (2 * n)) ∧ (W1 x ∧ W1 y ∧ W1 z ∧ W1 w)) ∧ ((ny ≤ 1000000 ∧ SmF gy (2 * ny)) ∧ (W1 xy ∧ W1 yy ∧ W1 zy ∧ W1 wy)))⟩ S v) = (
(2 * ny = 2 * ny ∧ 2 * n = 2 * n ∧ ((ny ≤ 1000000 ∧ SmF gy (2 * ny)) ∧ W1 xy ∧ W1 yy ∧ W1 zy ∧ W1 wy) ∧ (n ≤
1000000 ∧ SmF g (2 * n)) ∧ W1 x ∧ W1 y ∧ W1 z ∧ W1 w) ∧ true = true ∧ ((!rirB (emp cly ny)
(emp cl n) (mt4 xy yy zy wy x y z w) (fGt .f64 (arF x y z w) (arF xy yy zy wy)) (anyB (sIs g n (nsg cl n
(wz g)) x y z w gy ny true) (nsg cly ny (wz gy))) (anyB (sIs gy ny (nsg cly ny (wz gy)) xy yy zy wy g n true)
(nsg cl n (wz g)))) = true → rirB (emp cly ny) (emp cl n) (mt4 xy yy zy wy x y z w) (fGt .f64 (arF x y z w)
(arF xy yy zy wy)) (anyB (sIs g n (nsg cl n (wz g)) x y z w gy ny true) (nsg cly ny (wz gy))) (anyB
(sIs gy ny (nsg cly ny (wz gy)) xy yy zy wy g n true) (nsg cl n (wz g))) = false ∧ True) ∧ ((!rirB (emp cly ny)
(emp cl n) (mt4 xy yy zy wy x y z w) (fGt .f64 (arF x y z w) (arF xy yy zy wy)) (anyB (sIs g n (nsg cl n
(wz g)) x y z w gy ny true) (nsg cly ny (wz gy))) (anyB (sIs gy ny (nsg cly ny (wz gy)) xy yy zy wy g n true)
(nsg cl n (wz g)))) = false → (∃ (_ : Nat), rirB (emp cly ny) (emp cl n) (mt4 xy yy zy wy x y z w) (fGt .f64 (arF x y
 z w) (arF xy yy zy wy)) (anyB (sIs g n (nsg cl n (wz g)) x y z w gy ny true) (nsg cly ny (wz gy))) (anyB
(sIs gy ny (nsg cly ny (wz gy)) xy yy zy wy g n true) (nsg cl n (wz g))) = true ∧ ((True ∧ 0 = 0) ∧ (True ∧ 0 = 0) ∧ True ∧ (0 :
 Int) = (0 : Int) ∧ (0 : Int) = 0 ∧ True) ∧ True ∧ ((True ∧ 0 = 0) ∧ True ∧ True) ∧ True ∧ (cl = cl ∧ cw = cw ∧ cv = cv ∧ k = k ∧ True ∧ x = x ∧ y = y ∧ z = z ∧ w = w ∧ (True ∧ n = n) ∧ True) ∧ True ∧ (2 * n ≤ 2
* n ∧ ∀ (i : Nat), i < 2 * n → g i = g i) ∧ True ∧ ((True ∧ 0 = 0) ∧ True ∧ True) ∧ True ∧ (cly = cly ∧ cwy = cwy ∧ cvy = cvy ∧ ky = ky ∧ True ∧ xy = xy ∧ yy = yy ∧ zy = zy ∧ wy = wy ∧ (True ∧ ny = ny) ∧ True) ∧ True ∧ (2 * ny ≤ 2 * ny ∧ ∀ (i : Nat), i < 2 * ny → gy i = gy i) ∧ True) ∧ (∀ (_ : Nat), rirB (emp cly ny) (emp cl n) (mt4 xy yy zy wy x y z w) (fGt .f64
(arF x y z w) (arF xy yy zy wy)) (anyB (sIs g n (nsg cl n (wz g)) x y z w gy ny true) (nsg cly ny (wz
 gy))) (anyB (sIs gy ny (nsg cly ny (wz gy)) xy yy zy wy g n true) (nsg cl n (wz g))) = true → (false = true → False) ∧ (false = false → (∃ (_
: Nat), rirB (emp cly ny) (emp cl n) (mt4 xy yy zy wy x y z w) (fGt .f64 (arF x y z w) (arF xy yy zy wy)) (anyB
(sIs g n (nsg cl n (wz g)) x y z w gy ny true) (nsg cly ny (wz gy))) (anyB (sIs gy ny (nsg cly ny
(wz gy)) xy yy zy wy g n true) (nsg cl n (wz g))) = true ∧ ((True ∧ 0 = 0) ∧ (True ∧ 0 = 0) ∧ True ∧ (0 : Int) = 0 ∧ (0 : Int) = 0 ∧ True) ∧ True ∧
((True ∧ 0 = 0) ∧ True ∧ True) ∧ True ∧ (cl = cl ∧ cw = cw ∧ cv = cv ∧ k = k ∧ True ∧ x = x ∧ y = y ∧ z = z ∧ w = w ∧ (True ∧ n = n) ∧ True) ∧ True ∧ (2 * n ≤ 2 * n ∧ ∀ (i : Nat), i < 2 * n → g i = g i) ∧ True
∧ ((True ∧ 0 = 0) ∧ True ∧ True) ∧ True ∧ (cly = cly ∧ cwy = cwy ∧ cvy = cvy ∧ ky = ky ∧ True ∧ xy = xy ∧ yy = yy ∧ zy = zy ∧ wy = wy ∧ (True ∧ ny = ny) ∧ True) ∧ True ∧ (2 * ny ≤ 2 * ny ∧ ∀ (i : Nat), i < 2 *
 ny → gy i = gy i) ∧ True) ∧ (∀ (_ : Nat), rirB (emp cly ny) (emp cl n) (mt4 xy yy zy wy x y z w) (fGt .f64 (arF x y z w) (arF xy yy zy
 wy)) (anyB (sIs g n (nsg cl n (wz g)) x y z w gy ny true) (nsg cly ny (wz gy))) (anyB (sIs gy ny
(nsg cly ny (wz gy)) xy yy zy wy g n true) (nsg cl n (wz g))) = true → (false = true → False) ∧ (false = false → rirB (emp cly ny)
(emp cl n) (mt4 xy yy zy wy x y z w) (fGt .f64 (arF x y z w) (arF xy yy zy wy)) (anyB (sIs g n (nsg cl n
(wz g)) x y z w gy ny true) (nsg cly ny (wz gy))) (anyB (sIs gy ny (nsg cly ny (wz gy)) xy yy zy wy g n true)
(nsg cl n (wz g))) = true ∧ True)) ∧ True)) ∧ True)) := by kernel_rfl
theorem pip0 : ConOk Tryz.prog 208 (conR pip0C) := by
 refine con_of_vc gPM Tryz.func208 rfl (by kernel_rfl) fun args => ?_
 unfold pip0C
 split
 · rename_i P Y
   intro o0
   show RdM.All _ (match po0 o0.c with | some s => _ | none => _) _
   split
   · rename_i s hm0
     intro o1
     show RdM.All _ (match serOf o1.c with | some (cl, cw, cv, k, x, y, z, w, q, n) => _ | none => _) _
     split
     · rename_i cl cw cv k x y z w q n hm1
       intro o2
       show RdM.All _ (match fltsFrom .f64 o2.c with | some (m, g) => _ | none => _) _
       split
       · rename_i m2 g hm2
         intro o3
         show RdM.All _ (match po0 o3.c with | some sy => _ | none => _) _
         split
         · rename_i sy hm3
           intro o4
           show RdM.All _ (match serOf o4.c with | some (cly, cwy, cvy, ky, xy, yy, zy, wy, qy, ny) => _ | none => _) _
           split
           · rename_i cly cwy cvy ky xy yy zy wy qy ny hm4
             intro o5
             show RdM.All _ (match fltsFrom .f64 o5.c with | some (m, g) => _ | none => _) _
             split
             · rename_i m5 gy hm5
               intro ho
               replace ho : m2 = 2 * n ∧ m5 = 2 * ny ∧ ((n ≤ 1000000 ∧ SmF g (2 * n)) ∧ (W1 x ∧ W1 y ∧ W1 z ∧ W1 w)) ∧ ((ny ≤ 1000000 ∧ SmF gy (2 * ny)) ∧ (W1 xy ∧ W1 yy ∧ W1 zy ∧ W1 wy)) := ho
               obtain ⟨hsz2, hsz5, ho⟩ := ho
               subst hsz2
               subst hsz5
               refine ⟨?_, _, _, (vc_pip0 cl cw cv k x y z w q n s cly cwy cvy ky xy yy zy wy qy ny sy g gy).mpr ?_⟩
               · refine okFlag_mk rfl ⟨?_, ⟨trivial, po0_spec hm0 (by simp [sgSig, fsts, nth, sameN_self]), ⟨trivial, serOf_spec hm1 (by simp [sgSig, fsts, nth, sameN_self]), ⟨trivial, (contR_flts hm2).1, ⟨trivial, po0_spec hm3 (by simp [sgSig, fsts, nth, sameN_self]), ⟨trivial, serOf_spec hm4 (by simp [sgSig, fsts, nth, sameN_self]), ⟨trivial, (contR_flts hm5).1, trivial⟩⟩⟩⟩⟩⟩⟩
                 simp [eqvRL, eqvR, sgSig, fsts, nth, sameN_self]
               · generalize hv : (rirB (emp cly ny) (emp cl n) (mt4 xy yy zy wy x y z w) (fGt .f64 (arF x y z w) (arF xy yy zy wy)) (anyB (sIs g n (nsg cl n (wz g)) x y z w gy ny true) (nsg cly ny (wz gy))) (anyB (sIs gy ny (nsg cly ny (wz gy)) xy yy zy wy g n true) (nsg cl n (wz g)))) = r
                 cases r <;> simp [ho]
             · trivial
           · trivial
         · trivial
       · trivial
     · trivial
   · trivial
 · trivial
noncomputable def pcp0RC : List SV → RdM
 | [.ptr P 0, .ptr Y 0] => .read P fun o0 => (match po0 o0.c with
   | some s => .read s fun o1 => (match serOf o1.c with
   | some (cl, cw, cv, k, x, y, z, w, q, n) => .read q fun o2 => (match fltsFrom .f64 o2.c with
   | some (m2, g) => .read Y fun o3 => (match poR o3.c with
   | some (a, b, c, d) => .ret ⟨[.ptr 0 0, .ptr 3 0], [(0, ⟨false, 137, .cells [.ifc 157 (.ptr 1 0), .nils], 0⟩), (1, ⟨false, 150, serC cl cw cv k x y z w 2 n, 0⟩), (2, ⟨false, 100, .flts .f64 m2 g, 0⟩), (3, ⟨false, 137, .cells [.ifc 102 (.agg [.flt .f64 a, .flt .f64 b, .flt .f64 c, .flt .f64 d]), .nils], 0⟩)], .bool (rcrR g n (nsg cl n (wz g)) cl cw cv x y z w a b c d true), [], [], some (m2 = 2 * n ∧ ((n ≤ 1000000 ∧ SmF g (2 * n)) ∧ (W1 x ∧ W1 y ∧ W1 z ∧ W1 w)) ∧ (W1 a ∧ W1 b ∧ W1 c ∧ W1 d))⟩
   | none => .fail)
   | none => .fail)
   | none => .fail)
   | none => .fail)
 | _ => .fail
theorem vc_pcp0R (cl cw cv : Bool) (k : Int) (x y z w : Nat) (_ : Nm) (n : Nat) (_ : Nm) (a b c d : Nat)  (g : Nat → Nat) : runA GPM 4 [(7, .unr [⟨Nat, fun _ => ⟨72, [(0, .ptr 0 0), (1, .ptr 3 0), (5, .tt), (43, .nils), (44, .int .i64 0), (45, .int .i64 0)], [(0, ⟨false, 137, .cells [.ifc 157 (.ptr 1 0), .nils], 0⟩), (1, ⟨false, 150, serC cl cw cv k x y z w 2 n, 0⟩), (2, ⟨false, 100, .flts .f64 (2 * n) g, 0⟩), (3, ⟨false, 137, .cells [.ifc 102 (.agg [.flt .f64 a, .flt .f64 b, .flt .f64 c, .flt .f64 d]), .nils], 0⟩)], 4⟩, fun _ => rcrR g n (nsg cl n (wz g)) cl cw cv x y z w a b c d true = true, fun _ => 0⟩])] [] (codeOf Tryz.f238) (init Tryz.f238.ntmps [.ptr 0 0, .ptr 3 0] [(0, ⟨false, 137, .cells [.ifc 157 (.ptr 1 0), .nils], 0⟩), (1, ⟨false, 150, serC cl cw cv k x y z w 2 n, 0⟩), (2, ⟨false, 100, .flts .f64 (2 * n) g, 0⟩), (3, ⟨false, 137, .cells [.ifc 102 (.agg [.flt .f64 a, .flt .f64 b, .flt .f64 c, .flt .f64 d]), .nils], 0⟩)] 4) (endK GPM.E.T Tryz.f238.results.toList fun S v => postP 4 ⟨[.ptr 0 0, .ptr 3 0], [(0, ⟨false, 137, .cells [.ifc 157 (.ptr 1 0), .nils], 0⟩), (1, ⟨false, 150, serC cl cw cv k x y z w 2 n, 0⟩), (2, ⟨false, 100, .flts .f64 (2 * n) g, 0⟩), (3, ⟨false, 137, .cells [.ifc 102 (.agg [.flt .f64 a, .flt .f64 b, .flt .f64 c, .flt .f64 d]), .nils], 0⟩)], .bool (rcrR g n (nsg cl n (wz g)) cl cw cv x y z w a b c d true), [], [], some (2 * n = 2 * n ∧ ((n ≤ 1000000 ∧ SmF g (2 * n)) ∧ (W1 x ∧ W1 y ∧ W1 z ∧ W1 w)) ∧ (W1 a ∧ W1 b ∧ W1 c ∧ W1 d))⟩ S v) = (
(2 * n = 2 * n ∧ n ≤ 1000000 ∧ SmF g (2 * n) ∧ W1 a ∧ W1 b ∧ W1 c ∧ W1 d) ∧ true = true ∧ ((!rcrR g n
(nsg cl n (wz g)) cl cw cv x y z w a b c d true) = true → rcrR g n (nsg cl n (wz g)) cl cw cv x y z w a b c d true = false ∧ True) ∧ ((!rcrR g
 n (nsg cl n (wz g)) cl cw cv x y z w a b c d true) = false → (∃ (_ : Nat), rcrR g n (nsg cl n (wz g)) cl cw cv x y z w a b c d true = true ∧ ((True ∧ 0
= 0) ∧ (True ∧ 0 = 0) ∧ True ∧ True ∧ (0 : Int) = 0 ∧ (0 : Int) = 0 ∧ True) ∧ True ∧ ((True ∧ 0 = 0) ∧ True ∧ True) ∧ True ∧ (cl = cl ∧ cw = cw ∧ cv = cv ∧ k = k ∧ True ∧ x = x ∧ y = y ∧ z = z ∧
 w = w ∧ (True ∧ n = n) ∧ True) ∧ True ∧ (2 * n ≤ 2 * n ∧ ∀ (i : Nat), i < 2 * n → g i = g i) ∧ True ∧ ((a = a ∧ b = b ∧ c = c ∧ d = d ∧ True) ∧ True ∧ True) ∧ True) ∧ (∀ (_ : Nat), rcrR g n
(nsg cl n (wz g)) cl cw cv x y z w a b c d true = true → (false = true → False) ∧ (false = false → rcrR g n (nsg cl n (wz g)) cl cw cv x y z w a b c d true =
 true ∧ True)) ∧ True)) := by kernel_rfl
theorem pcp0R : ConOk Tryz.prog 238 (conR pcp0RC) := by
 refine con_of_vc gPM Tryz.func238 rfl (by kernel_rfl) fun args => ?_
 unfold pcp0RC
 split
 · rename_i P Y
   intro o0
   show RdM.All _ (match po0 o0.c with | some s => _ | none => _) _
   split
   · rename_i s hm0
     intro o1
     show RdM.All _ (match serOf o1.c with | some (cl, cw, cv, k, x, y, z, w, q, n) => _ | none => _) _
     split
     · rename_i cl cw cv k x y z w q n hm1
       intro o2
       show RdM.All _ (match fltsFrom .f64 o2.c with | some (m, g) => _ | none => _) _
       split
       · rename_i m2 g hm2
         intro o3
         show RdM.All _ (match poR o3.c with | some (a, b, c, d) => _ | none => _) _
         split
         · rename_i a b c d hm3
           intro ho
           replace ho : m2 = 2 * n ∧ ((n ≤ 1000000 ∧ SmF g (2 * n)) ∧ (W1 x ∧ W1 y ∧ W1 z ∧ W1 w)) ∧ (W1 a ∧ W1 b ∧ W1 c ∧ W1 d) := ho
           obtain ⟨hsz2, ho⟩ := ho
           subst hsz2
           refine ⟨?_, _, _, (vc_pcp0R cl cw cv k x y z w q n s a b c d g).mpr ?_⟩
           · refine okFlag_mk rfl ⟨?_, ⟨trivial, po0_spec hm0 (by simp [sgSig, fsts, nth, sameN_self]), ⟨trivial, serOf_spec hm1 (by simp [sgSig, fsts, nth, sameN_self]), ⟨trivial, (contR_flts hm2).1, ⟨trivial, poR_spec hm3, trivial⟩⟩⟩⟩⟩
             simp [eqvRL, eqvR, sgSig, fsts, nth, sameN_self]
           · generalize hv : (rcrR g n (nsg cl n (wz g)) cl cw cv x y z w a b c d true) = r
             cases r <;> simp [ho]
         · trivial
       · trivial
     · trivial
   · trivial
 · trivial
noncomputable def pip0RC : List SV → RdM
 | [.ptr P 0, .ptr Y 0] => .read P fun o0 => (match po0 o0.c with
   | some s => .read s fun o1 => (match serOf o1.c with
   | some (cl, cw, cv, k, x, y, z, w, q, n) => .read q fun o2 => (match fltsFrom .f64 o2.c with
   | some (m2, g) => .read Y fun o3 => (match poR o3.c with
   | some (a, b, c, d) => .ret ⟨[.ptr 0 0, .ptr 3 0], [(0, ⟨false, 137, .cells [.ifc 157 (.ptr 1 0), .nils], 0⟩), (1, ⟨false, 150, serC cl cw cv k x y z w 2 n, 0⟩), (2, ⟨false, 100, .flts .f64 m2 g, 0⟩), (3, ⟨false, 137, .cells [.ifc 102 (.agg [.flt .f64 a, .flt .f64 b, .flt .f64 c, .flt .f64 d]), .nils], 0⟩)], .bool (rirB false (emp cl n) (mt4 a b c d x y z w) (fGt .f64 (arF x y z w) (arF a b c d)) (anyB (sIs g n (nsg cl n (wz g)) x y z w (rcG a b c d) 4 true) 4) (anyB (sIs (rcG a b c d) 4 4 a b c d g n true) (nsg cl n (wz g)))), [], [], some (m2 = 2 * n ∧ ((n ≤ 1000000 ∧ SmF g (2 * n)) ∧ (W1 x ∧ W1 y ∧ W1 z ∧ W1 w)) ∧ (W1 a ∧ W1 b ∧ W1 c ∧ W1 d))⟩
   | none => .fail)
   | none => .fail)
   | none => .fail)
   | none => .fail)
 | _ => .fail
theorem vc_pip0R (cl cw cv : Bool) (k : Int) (x y z w : Nat) (_ : Nm) (n : Nat) (_ : Nm) (a b c d : Nat)  (g : Nat → Nat) : runA GPM 4 [(6, .unr [⟨Nat, fun _ => ⟨71, [(0, .ptr 0 0), (1, .ptr 3 0), (42, .nils), (43, .int .i64 0), (44, .int .i64 0)], [(0, ⟨false, 137, .cells [.ifc 157 (.ptr 1 0), .nils], 0⟩), (1, ⟨false, 150, serC cl cw cv k x y z w 2 n, 0⟩), (2, ⟨false, 100, .flts .f64 (2 * n) g, 0⟩), (3, ⟨false, 137, .cells [.ifc 102 (.agg [.flt .f64 a, .flt .f64 b, .flt .f64 c, .flt .f64 d]), .nils], 0⟩)], 4⟩, fun _ => rirB false (emp cl n) (mt4 a b c d x y z w) (fGt .f64 (arF x y z w) (arF a b c d)) (anyB (sIs g n (nsg cl n (wz g)) x y z w (rcG a b c d) 4 true) 4) (anyB (sIs (rcG a b c d) 4 4 a b c d g n true) (nsg cl n (wz g))) = true, fun _ => 0⟩]), (12, .unr [⟨Nat, fun _ => ⟨71, [(0, .ptr 0 0), (1, .ptr 3 0), (58, .nils), (59, .int .i64 0), (60, .int .i64 0)], [(0, ⟨false, 137, .cells [.ifc 157 (.ptr 1 0), .nils], 0⟩), (1, ⟨false, 150, serC cl cw cv k x y z w 2 n, 0⟩), (2, ⟨false, 100, .flts .f64 (2 * n) g, 0⟩), (3, ⟨false, 137, .cells [.ifc 102 (.agg [.flt .f64 a, .flt .f64 b, .flt .f64 c, .flt .f64 d]), .nils], 0⟩)], 4⟩, fun _ => rirB false (emp cl n) (mt4 a b c d x y z w) (fGt .f64 (arF x y z w) (arF a b c d)) (anyB (sIs g n (nsg cl n (wz g)) x y z w (rcG a b c d) 4 true) 4) (anyB (sIs (rcG a b c d) 4 4 a b c d g n true) (nsg cl n (wz g))) = true, fun _ => 0⟩])] [] (codeOf Tryz.f208) (init Tryz.f208.ntmps [.ptr 0 0, .ptr 3 0] [(0, ⟨false, 137, .cells [.ifc 157 (.ptr 1 0), .nils], 0⟩), (1, ⟨false, 150, serC cl cw cv k x y z w 2 n, 0⟩), (2, ⟨false, 100, .flts .f64 (2 * n) g, 0⟩), (3, ⟨false, 137, .cells [.ifc 102 (.agg [.flt .f64 a, .flt .f64 b, .flt .f64 c, .flt .f64 d]), .nils], 0⟩)] 4) (endK GPM.E.T Tryz.f208.results.toList fun S v => postP 4 ⟨[.ptr 0 0, .ptr 3 0], [(0, ⟨false, 137, .cells [.ifc 157 (.ptr 1 0), .nils], 0⟩), (1, ⟨false, 150, serC cl cw cv k x y z w 2 n, 0⟩), (2, ⟨false, 100, .flts .f64 (2 * n) g, 0⟩), (3, ⟨false, 137, .cells [.ifc 102 (.agg [.flt .f64 a, .flt .f64 b, .flt .f64 c, .flt .f64 d]), .nils], 0⟩)], .bool (rirB false (emp cl n) (mt4 a b c d x y z w) (fGt .f64 (arF x y z w) (arF a b c d)) (anyB (sIs g n (nsg cl n (wz g)) x y z w (rcG a b c d) 4 true) 4) (anyB (sIs (rcG a b c d) 4 4 a b c d g n true) (nsg cl n (wz g)))), [], [], some (2 * n = 2 * n ∧ ((n ≤ 1000000 ∧ SmF g (2 * n)) ∧ (W1 x ∧ W1 y ∧ W1 z ∧ W1 w)) ∧ (W1 a ∧ W1 b ∧ W1 c ∧ W1 d))⟩ S v) = (
(2 * n = 2 * n ∧ (True ∧ W1 a ∧ W1 b ∧ W1 c ∧ W1 d) ∧ (n ≤ 1000000 ∧ SmF g (2 * n)) ∧ W1 x ∧
 W1 y ∧ W1 z ∧ W1 w) ∧ true = true ∧ ((!rirB false (emp cl n) (mt4 a b c d x y z w) (fGt .f64 (arF x y z w)
(arF a b c d)) (anyB (sIs g n (nsg cl n (wz g)) x y z w (rcG a b c d) 4 true) 4) (anyB
(sIs (rcG a b c d) 4 4 a b c d g n true) (nsg cl n (wz g)))) = true → rirB false (emp cl n) (mt4 a b c d x y
 z w) (fGt .f64 (arF x y z w) (arF a b c d)) (anyB (sIs g n (nsg cl n (wz g)) x y z w (rcG a b c d) 4 true) 4) (anyB (sIs (rcG a b c d) 4 4 a b c d g n true) (nsg cl n (wz g))) = false ∧ True) ∧ ((!rirB false
(emp cl n) (mt4 a b c d x y z w) (fGt .f64 (arF x y z w) (arF a b c d)) (anyB (sIs g n (nsg cl n (wz
 g)) x y z w (rcG a b c d) 4 true) 4) (anyB (sIs (rcG a b c d) 4 4 a b c d g n true) (nsg cl n (wz g)))) =
 false → (∃ (_ : Nat), rirB false (emp cl n) (mt4 a b c d x y z w) (fGt .f64 (arF x y z w) (arF a b c d)) (anyB (sIs g
 n (nsg cl n (wz g)) x y z w (rcG a b c d) 4 true) 4) (anyB (sIs (rcG a b c d) 4 4 a b c d g n true)
(nsg cl n (wz g))) = true ∧ ((True ∧ 0 = 0) ∧ (True ∧ 0 = 0) ∧ True ∧ (0 : Int) = 0 ∧ (0 : Int) = 0 ∧ True) ∧ True ∧ ((True ∧ 0 = 0) ∧ True ∧ True) ∧
 True ∧ (cl = cl ∧ cw = cw ∧ cv = cv ∧ k = k ∧ True ∧ x = x ∧ y = y ∧ z = z ∧ w = w ∧ (True ∧ n = n) ∧ True) ∧ True ∧ (2 * n ≤ 2 * n ∧ ∀ (i : Nat), i < 2 * n → g i = g i) ∧ True ∧ ((a = a ∧ b = b ∧ c = c ∧ d = d ∧ True) ∧ True
∧ True) ∧ True) ∧ (∀ (_ : Nat), rirB false (emp cl n) (mt4 a b c d x y z w) (fGt .f64 (arF x y z w) (arF a b c d)) (anyB
(sIs g n (nsg cl n (wz g)) x y z w (rcG a b c d) 4 true) 4) (anyB (sIs (rcG a b c d) 4 4 a b
 c d g n true) (nsg cl n (wz g))) = true → (false = true → False) ∧ (false = false → (∃ (_ : Nat), rirB false (emp cl n) (mt4 a b c d x y z w) (fGt .f64
(arF x y z w) (arF a b c d)) (anyB (sIs g n (nsg cl n (wz g)) x y z w (rcG a b c d) 4 true) 4)
(anyB (sIs (rcG a b c d) 4 4 a b c d g n true) (nsg cl n (wz g))) = true ∧ ((True ∧ 0 = 0) ∧ (True ∧ 0 = 0) ∧
 True ∧ (0 : Int) = 0 ∧ (0 : Int) = 0 ∧ True) ∧ True ∧ ((True ∧ 0 = 0) ∧ True ∧ True) ∧ True ∧ (cl = cl ∧ cw = cw ∧ cv = cv ∧ k = k ∧ True ∧ x = x ∧ y = y ∧ z = z ∧ w = w ∧ (True ∧ n = n) ∧ True) ∧ True ∧ (2 * n
≤ 2 * n ∧ ∀ (i : Nat), i < 2 * n → g i = g i) ∧ True ∧ ((a = a ∧ b = b ∧ c = c ∧ d = d ∧ True) ∧ True ∧ True) ∧ True) ∧ (∀ (_ : Nat), rirB false (emp cl n) (mt4 a b c d x y z w)
(fGt .f64 (arF x y z w) (arF a b c d)) (anyB (sIs g n (nsg cl n (wz g)) x y z w (rcG a b c d) 4 true) 4) (anyB (sIs (rcG a b c d) 4 4 a b c d g n true) (nsg cl n (wz g))) = true → (false = true → False) ∧ (false = false →
 rirB false (emp cl n) (mt4 a b c d x y z w) (fGt .f64 (arF x y z w) (arF a b c d)) (anyB (sIs g n
(nsg cl n (wz g)) x y z w (rcG a b c d) 4 true) 4) (anyB (sIs (rcG a b c d) 4 4 a b c d g n true)
(nsg cl n (wz g))) = true ∧ True)) ∧ True)) ∧ True)) := by kernel_rfl
theorem pip0R : ConOk Tryz.prog 208 (conR pip0RC) := by
 refine con_of_vc gPM Tryz.func208 rfl (by kernel_rfl) fun args => ?_
 unfold pip0RC
 split
 · rename_i P Y
   intro o0
   show RdM.All _ (match po0 o0.c with | some s => _ | none => _) _
   split
   · rename_i s hm0
     intro o1
     show RdM.All _ (match serOf o1.c with | some (cl, cw, cv, k, x, y, z, w, q, n) => _ | none => _) _
     split
     · rename_i cl cw cv k x y z w q n hm1
       intro o2
       show RdM.All _ (match fltsFrom .f64 o2.c with | some (m, g) => _ | none => _) _
       split
       · rename_i m2 g hm2
         intro o3
         show RdM.All _ (match poR o3.c with | some (a, b, c, d) => _ | none => _) _
         split
         · rename_i a b c d hm3
           intro ho
           replace ho : m2 = 2 * n ∧ ((n ≤ 1000000 ∧ SmF g (2 * n)) ∧ (W1 x ∧ W1 y ∧ W1 z ∧ W1 w)) ∧ (W1 a ∧ W1 b ∧ W1 c ∧ W1 d) := ho
           obtain ⟨hsz2, ho⟩ := ho
           subst hsz2
           refine ⟨?_, _, _, (vc_pip0R cl cw cv k x y z w q n s a b c d g).mpr ?_⟩
           · refine okFlag_mk rfl ⟨?_, ⟨trivial, po0_spec hm0 (by simp [sgSig, fsts, nth, sameN_self]), ⟨trivial, serOf_spec hm1 (by simp [sgSig, fsts, nth, sameN_self]), ⟨trivial, (contR_flts hm2).1, ⟨trivial, poR_spec hm3, trivial⟩⟩⟩⟩⟩
             simp [eqvRL, eqvR, sgSig, fsts, nth, sameN_self]
           · generalize hv : (rirB false (emp cl n) (mt4 a b c d x y z w) (fGt .f64 (arF x y z w) (arF a b c d)) (anyB (sIs g n (nsg cl n (wz g)) x y z w (rcG a b c d) 4 true) 4) (anyB (sIs (rcG a b c d) 4 4 a b c d g n true) (nsg cl n (wz g)))) = r
             cases r <;> simp [ho]
         · trivial
       · trivial
     · trivial
   · trivial
 · trivial
noncomputable def Gpcr0 : Ctx := ⟨⟨tys, []⟩, [(238, conR pcp0RC)]⟩
theorem gpcr0 : CtxOk Tryz.prog Gpcr0 := ⟨⟨tysOk, FlatsOk.nil⟩, GamOk.cons pcp0R GamOk.nil, by kernel_rfl⟩
noncomputable def pcr0C : List SV → RdM
 | [.ptr P 0, .agg [.flt .f64 a, .flt .f64 b, .flt .f64 c, .flt .f64 d]] => .read P fun o0 => (match po0 o0.c with
   | some s => .read s fun o1 => (match serOf o1.c with
   | some (cl, cw, cv, k, x, y, z, w, q, n) => .read q fun o2 => (match fltsFrom .f64 o2.c with
   | some (m2, g) => .ret ⟨[.ptr 0 0, .agg [.flt .f64 a, .flt .f64 b, .flt .f64 c, .flt .f64 d]], [(0, ⟨false, 137, .cells [.ifc 157 (.ptr 1 0), .nils], 0⟩), (1, ⟨false, 150, serC cl cw cv k x y z w 2 n, 0⟩), (2, ⟨false, 100, .flts .f64 m2 g, 0⟩)], .bool (rcrR g n (nsg cl n (wz g)) cl cw cv x y z w a b c d true), [], [], some (m2 = 2 * n ∧ ((n ≤ 1000000 ∧ SmF g (2 * n)) ∧ (W1 x ∧ W1 y ∧ W1 z ∧ W1 w)) ∧ W1 a ∧ W1 b ∧ W1 c ∧ W1 d)⟩
   | none => .fail)
   | none => .fail)
   | none => .fail)
 | _ => .fail
theorem vc_pcr0 (cl cw cv : Bool) (k : Int) (x y z w : Nat) (_ : Nm) (n : Nat) (_ : Nm) (a b c d : Nat)  (g : Nat → Nat) : runA Gpcr0 3 [] [] (codeOf Tryz.f239) (init Tryz.f239.ntmps [.ptr 0 0, .agg [.flt .f64 a, .flt .f64 b, .flt .f64 c, .flt .f64 d]] [(0, ⟨false, 137, .cells [.ifc 157 (.ptr 1 0), .nils], 0⟩), (1, ⟨false, 150, serC cl cw cv k x y z w 2 n, 0⟩), (2, ⟨false, 100, .flts .f64 (2 * n) g, 0⟩)] 3) (endK Gpcr0.E.T Tryz.f239.results.toList fun S v => postP 3 ⟨[.ptr 0 0, .agg [.flt .f64 a, .flt .f64 b, .flt .f64 c, .flt .f64 d]], [(0, ⟨false, 137, .cells [.ifc 157 (.ptr 1 0), .nils], 0⟩), (1, ⟨false, 150, serC cl cw cv k x y z w 2 n, 0⟩), (2, ⟨false, 100, .flts .f64 (2 * n) g, 0⟩)], .bool (rcrR g n (nsg cl n (wz g)) cl cw cv x y z w a b c d true), [], [], some (2 * n = 2 * n ∧ ((n ≤ 1000000 ∧ SmF g (2 * n)) ∧ (W1 x ∧ W1 y ∧ W1 z ∧ W1 w)) ∧ W1 a ∧ W1 b ∧ W1 c ∧ W1 d)⟩ S v) = (
(2 * n = 2 * n ∧ ((n ≤ 1000000 ∧ SmF g (2 * n)) ∧ W1 x ∧ W1 y ∧ W1 z ∧ W1 w) ∧ W1 a ∧ W1 b ∧
 W1 c ∧ W1 d) ∧ rcrR g n (nsg cl n (wz g)) cl cw cv x y z w a b c d true = rcrR g n (nsg cl n (wz g)) cl cw
 cv x y z w a b c d true ∧ True) := by kernel_rfl
theorem pcr0 : ConOk Tryz.prog 239 (conR pcr0C) := by
 refine con_of_vc gpcr0 Tryz.func239 rfl (by kernel_rfl) fun args => ?_
 unfold pcr0C
 split
 · rename_i P a b c d
   intro o0
   show RdM.All _ (match po0 o0.c with | some s => _ | none => _) _
   split
   · rename_i s hm0
     intro o1
     show RdM.All _ (match serOf o1.c with | some (cl, cw, cv, k, x, y, z, w, q, n) => _ | none => _) _
     split
     · rename_i cl cw cv k x y z w q n hm1
       intro o2
       show RdM.All _ (match fltsFrom .f64 o2.c with | some (m, g) => _ | none => _) _
       split
       · rename_i m2 g hm2
         intro ho
         replace ho : m2 = 2 * n ∧ ((n ≤ 1000000 ∧ SmF g (2 * n)) ∧ (W1 x ∧ W1 y ∧ W1 z ∧ W1 w)) ∧ W1 a ∧ W1 b ∧ W1 c ∧ W1 d := ho
         obtain ⟨hsz2, ho⟩ := ho
         subst hsz2
         refine ⟨?_, _, _, (vc_pcr0 cl cw cv k x y z w q n s a b c d g).mpr ?_⟩
         · refine okFlag_mk rfl ⟨?_, ⟨trivial, po0_spec hm0 (by simp [sgSig, fsts, nth, sameN_self]), ⟨trivial, serOf_spec hm1 (by simp [sgSig, fsts, nth, sameN_self]), ⟨trivial, (contR_flts hm2).1, trivial⟩⟩⟩⟩
           simp [eqvRL, eqvR, fkEq_self, sgSig, fsts, nth, sameN_self]
         · simp [ho]
       · trivial
     · trivial
   · trivial
 · trivial
noncomputable def Gpir0 : Ctx := ⟨⟨tys, []⟩, [(208, conR pip0RC)]⟩
theorem gpir0 : CtxOk Tryz.prog Gpir0 := ⟨⟨tysOk, FlatsOk.nil⟩, GamOk.cons pip0R GamOk.nil, by kernel_rfl⟩
noncomputable def pir0C : List SV → RdM
 | [.ptr P 0, .agg [.flt .f64 a, .flt .f64 b, .flt .f64 c, .flt .f64 d]] => .read P fun o0 => (match po0 o0.c with
   | some s => .read s fun o1 => (match serOf o1.c with
   | some (cl, cw, cv, k, x, y, z, w, q, n) => .read q fun o2 => (match fltsFrom .f64 o2.c with
   | some (m2, g) => .ret ⟨[.ptr 0 0, .agg [.flt .f64 a, .flt .f64 b, .flt .f64 c, .flt .f64 d]], [(0, ⟨false, 137, .cells [.ifc 157 (.ptr 1 0), .nils], 0⟩), (1, ⟨false, 150, serC cl cw cv k x y z w 2 n, 0⟩), (2, ⟨false, 100, .flts .f64 m2 g, 0⟩)], .bool (rirB false (emp cl n) (mt4 a b c d x y z w) (fGt .f64 (arF x y z w) (arF a b c d)) (anyB (sIs g n (nsg cl n (wz g)) x y z w (rcG a b c d) 4 true) 4) (anyB (sIs (rcG a b c d) 4 4 a b c d g n true) (nsg cl n (wz g)))), [], [], some (m2 = 2 * n ∧ ((n ≤ 1000000 ∧ SmF g (2 * n)) ∧ (W1 x ∧ W1 y ∧ W1 z ∧ W1 w)) ∧ W1 a ∧ W1 b ∧ W1 c ∧ W1 d)⟩
   | none => .fail)
   | none => .fail)
   | none => .fail)
 | _ => .fail
theorem vc_pir0 (cl cw cv : Bool) (k : Int) (x y z w : Nat) (_ : Nm) (n : Nat) (_ : Nm) (a b c d : Nat)  (g : Nat → Nat) : runA Gpir0 3 [] [] (codeOf Tryz.f202) (init Tryz.f202.ntmps [.ptr 0 0, .agg [.flt .f64 a, .flt .f64 b, .flt .f64 c, .flt .f64 d]] [(0, ⟨false, 137, .cells [.ifc 157 (.ptr 1 0), .nils], 0⟩), (1, ⟨false, 150, serC cl cw cv k x y z w 2 n, 0⟩), (2, ⟨false, 100, .flts .f64 (2 * n) g, 0⟩)] 3) (endK Gpir0.E.T Tryz.f202.results.toList fun S v => postP 3 ⟨[.ptr 0 0, .agg [.flt .f64 a, .flt .f64 b, .flt .f64 c, .flt .f64 d]], [(0, ⟨false, 137, .cells [.ifc 157 (.ptr 1 0), .nils], 0⟩), (1, ⟨false, 150, serC cl cw cv k x y z w 2 n, 0⟩), (2, ⟨false, 100, .flts .f64 (2 * n) g, 0⟩)], .bool (rirB false (emp cl n) (mt4 a b c d x y z w) (fGt .f64 (arF x y z w) (arF a b c d)) (anyB (sIs g n (nsg cl n (wz g)) x y z w (rcG a b c d) 4 true) 4) (anyB (sIs (rcG a b c d) 4 4 a b c d g n true) (nsg cl n (wz g)))), [], [], some (2 * n = 2 * n ∧ ((n ≤ 1000000 ∧ SmF g (2 * n)) ∧ (W1 x ∧ W1 y ∧ W1 z ∧ W1 w)) ∧ W1 a ∧ W1 b ∧ W1 c ∧ W1 d)⟩ S v) = (
(2 * n = 2 * n ∧ ((n ≤ 1000000 ∧ SmF g (2 * n)) ∧ W1 x ∧ W1 y ∧ W1 z ∧ W1 w) ∧ W1 a ∧ W1 b ∧
 W1 c ∧ W1 d) ∧ rirB false (emp cl n) (mt4 a b c d x y z w) (fGt .f64 (arF x y z w) (arF a b c d))
(anyB (sIs g n (nsg cl n (wz g)) x y z w (rcG a b c d) 4 true) 4) (anyB (sIs (rcG a b c d)
4 4 a b c d g n true) (nsg cl n (wz g))) = rirB false (emp cl n) (mt4 a b c d x y z w) (fGt .f64 (arF x y z w)
(arF a b c d)) (anyB (sIs g n (nsg cl n (wz g)) x y z w (rcG a b c d) 4 true) 4) (anyB
(sIs (rcG a b c d) 4 4 a b c d g n true) (nsg cl n (wz g))) ∧ True) := by kernel_rfl
theorem pir0 : ConOk Tryz.prog 202 (conR pir0C) := by
 refine con_of_vc gpir0 Tryz.func202 rfl (by kernel_rfl) fun args => ?_
 unfold pir0C
 split
 · rename_i P a b c d
   intro o0
   show RdM.All _ (match po0 o0.c with | some s => _ | none => _) _
   split
   · rename_i s hm0
     intro o1
     show RdM.All _ (match serOf o1.c with | some (cl, cw, cv, k, x, y, z, w, q, n) => _ | none => _) _
     split
     · rename_i cl cw cv k x y z w q n hm1
       intro o2
       show RdM.All _ (match fltsFrom .f64 o2.c with | some (m, g) => _ | none => _) _
       split
       · rename_i m2 g hm2
         intro ho
         replace ho : m2 = 2 * n ∧ ((n ≤ 1000000 ∧ SmF g (2 * n)) ∧ (W1 x ∧ W1 y ∧ W1 z ∧ W1 w)) ∧ W1 a ∧ W1 b ∧ W1 c ∧ W1 d := ho
         obtain ⟨hsz2, ho⟩ := ho
         subst hsz2
         refine ⟨?_, _, _, (vc_pir0 cl cw cv k x y z w q n s a b c d g).mpr ?_⟩
         · refine okFlag_mk rfl ⟨?_, ⟨trivial, po0_spec hm0 (by simp [sgSig, fsts, nth, sameN_self]), ⟨trivial, serOf_spec hm1 (by simp [sgSig, fsts, nth, sameN_self]), ⟨trivial, (contR_flts hm2).1, trivial⟩⟩⟩⟩
           simp [eqvRL, eqvR, fkEq_self, sgSig, fsts, nth, sameN_self]
         · simp [ho]
       · trivial
     · trivial
   · trivial
 · trivial
def ppL79 (len : Nat) (g : Nat → Int) : Fam := ⟨Nat, fun i =>
 ⟨22, [(3, .slcc 1 i), (6, .slcc 0 len), (7, .int .i64 len), (8, .int .i64 i)], [(0, ⟨false, 28, .ints .i64 (2 * len) g, 0⟩), (1, ⟨true, 23, .ints .i64 (2 * i) g, 2⟩)], 2⟩, fun i => i ≤ len, fun i => len - i⟩
noncomputable def polyPtsC : List SV → RdM
 | [.slcc n len] => .read n fun o0 => (match intsFrom .i64 o0.c with
   | some (m0, g) => .ret ⟨[.slcc 0 len], [(0, ⟨false, 28, .ints .i64 m0 g, 0⟩)], .slcc 1 len, [], [(1, ⟨true, 23, .ints .i64 (2 * len) g, 2⟩)], some (m0 = 2 * len ∧ len ≤ 1000000)⟩
   | none => .fail)
 | _ => .fail
theorem vc_polyPts (len : Nat)  (g : Nat → Int) : runA G0 1 [(3, ppL79 len g)] [] (codeOf Tryz.f79) (init Tryz.f79.ntmps [.slcc 0 len] [(0, ⟨false, 28, .ints .i64 (2 * len) g, 0⟩)] 1) (endK G0.E.T Tryz.f79.results.toList fun S v => postP 1 ⟨[.slcc 0 len], [(0, ⟨false, 28, .ints .i64 (2 * len) g, 0⟩)], .slcc 1 len, [], [(1, ⟨true, 23, .ints .i64 (2 * len) g, 2⟩)], some (2 * len = 2 * len ∧ len ≤ 1000000)⟩ S v) = (
(∃ (i : Nat), i ≤ len ∧ (i = 0 ∧ (True ∧ len = len) ∧ (↑len : Int) = (↑len : Int) ∧ 0 = (↑i : Int) ∧ True) ∧ True ∧ (2 * len ≤ 2 * len ∧ ∀ (i : Nat), i < 2 * len → g i = g i) ∧ True ∧ 2 * i = 0
∧ True) ∧ ∀ (i : Nat), i ≤ len → (decide ((↑i : Int) < (↑len : Int)) = true → ((0 ≤ (↑i : Int) ∧ (↑i : Int) < (↑len : Int)) ∧ 1 ≤ 2 * len) ∧ 0 + Int.toNat (↑i : Int) * 2 + 2 ≤ 2 * len ∧ (2 * i = i * 2 ∧ (i + 1) * 16 ≤ 140737488355328 ∧ i + 1 ≤ 9223372036854775807) ∧ ∃ (i' : Nat), i' ≤ len ∧ len - i' < len - i ∧ ((True ∧ i + 1 = i') ∧ (True ∧ len = len) ∧ (↑len : Int) = (↑len
: Int) ∧ Go.IntKind.wrap .i64 ((↑i : Int) + 1) = (↑i' : Int) ∧ True) ∧ True ∧ (2 * len ≤ 2 * len ∧ ∀ (i : Nat), i < 2 * len → g i = g i) ∧ True ∧ (23 = 23 ∧ 2 = 2 ∧ 2 * i' ≤ 2 * i + List.length [g (0 + Int.toNat (↑i : Int) * 2), g (0 + Int.toNat (↑i : Int) * 2 + 1)] ∧ ∀ (i_1 : Nat), i_1 < 2 * i' → more (2 * i) g [g (0 + Int.toNat (↑i : Int) * 2), g (0 + Int.toNat (↑i : Int) * 2 + 1)] (0 : Int) i_1 = g i_1) ∧ True) ∧ (decide ((↑i : Int) < (↑len : Int)) = false → (True ∧ i = len) ∧ True ∧ (23 = 23 ∧ 2 = 2 ∧ 2 * len ≤ 2 * i ∧ ∀ (i : Nat), i < 2 * len → g i = g i) ∧ True)) := by kernel_rfl
theorem polyPts : ConOk Tryz.prog 79 (conR polyPtsC) := by
 refine con_of_vc g0 Tryz.func79 rfl (by kernel_rfl) fun args => ?_
 unfold polyPtsC
 split
 · rename_i n len
   intro o0
   show RdM.All _ (match intsFrom .i64 o0.c with | some (m, g) => _ | none => _) _
   split
   · rename_i m0 g hm0
     intro ho
     replace ho : m0 = 2 * len ∧ len ≤ 1000000 := ho
     obtain ⟨hsz0, ho⟩ := ho
     subst hsz0
     refine ⟨?_, _, _, (vc_polyPts len g).mpr ?_⟩
     · refine okFlag_mk rfl ⟨?_, ⟨trivial, (contR_ints hm0).1, trivial⟩⟩
       simp [eqvRL, eqvR, sgSig, fsts, nth, sameN_self]
     · refine ⟨⟨0, by simp⟩, fun i hi => ⟨fun h => ?_, fun h => ?_⟩⟩
       · have h := of_decide_eq_true h
         have e : 0 + (i : Int).toNat * 2 = 2 * i := by omega
         refine ⟨by omega, by omega, by omega, i + 1, by omega, by omega, ⟨⟨trivial, rfl⟩, ⟨trivial, rfl⟩, rfl, ?_, trivial⟩, trivial, ⟨Nat.le_refl _, fun _ _ => rfl⟩, trivial, ⟨rfl, rfl, ?_, ?_⟩, trivial⟩
         · rw [wrap64 (by omega) (by omega)]; omega
         · show 2 * (i + 1) ≤ 2 * i + 2
           omega
         · exact more_two (by rw [e]) (by rw [e])
       · have h := of_decide_eq_false h
         have : i = len := by omega
         subst this
         exact ⟨⟨trivial, rfl⟩, trivial, ⟨rfl, rfl, Nat.le_refl _, fun _ _ => rfl⟩, trivial⟩
   · trivial
 · trivial
noncomputable def GPS1 : Ctx := ⟨⟨tys, []⟩, [(79, conR polyPtsC)]⟩
theorem gPS1 : CtxOk Tryz.prog GPS1 := ⟨⟨tysOk, FlatsOk.nil⟩, GamOk.cons polyPts GamOk.nil, by kernel_rfl⟩
noncomputable def polyLnC : List SV → RdM
 | [.slcc n len] => .read n fun o0 => (match intsFrom .i64 o0.c with
   | some (m0, g) => .ret ⟨[.slcc 0 len], [(0, ⟨false, 28, .ints .i64 m0 g, 0⟩)], .agg [.int .i64 2, .slcc 1 len, .nils], [], [(1, ⟨true, 23, .ints .i64 (2 * len) g, 2⟩)], some (m0 = 2 * len ∧ len ≤ 1000000)⟩
   | none => .fail)
 | _ => .fail
theorem vc_polyLn (len : Nat)  (g : Nat → Int) : runA GPS1 1 [] [] (codeOf Tryz.f51) (init Tryz.f51.ntmps [.slcc 0 len] [(0, ⟨false, 28, .ints .i64 (2 * len) g, 0⟩)] 1) (endK GPS1.E.T Tryz.f51.results.toList fun S v => postP 1 ⟨[.slcc 0 len], [(0, ⟨false, 28, .ints .i64 (2 * len) g, 0⟩)], .agg [.int .i64 2, .slcc 1 len, .nils], [], [(1, ⟨true, 23, .ints .i64 (2 * len) g, 2⟩)], some (2 * len = 2 * len ∧ len ≤ 1000000)⟩ S v) = (
(2 * len = 2 * len ∧ len ≤ 1000000) ∧ ((2 : Int) = 2 ∧ (True ∧ len = len) ∧ True ∧ True) ∧ True ∧ (23 = 23 ∧ 2 = 2 ∧ 2 * len ≤ 2 * len ∧ ∀ (i : Nat), i < 2 * len
→ g i = g i) ∧ True) := by kernel_rfl
theorem polyLn : ConOk Tryz.prog 51 (conR polyLnC) := by
 refine con_of_vc gPS1 Tryz.func51 rfl (by kernel_rfl) fun args => ?_
 unfold polyLnC
 split
 · rename_i n len
   intro o0
   show RdM.All _ (match intsFrom .i64 o0.c with | some (m, g) => _ | none => _) _
   split
   · rename_i m0 g hm0
     intro ho
     replace ho : m0 = 2 * len ∧ len ≤ 1000000 := ho
     obtain ⟨hsz0, ho⟩ := ho
     subst hsz0
     refine ⟨?_, _, _, (vc_polyLn len g).mpr ?_⟩
     · refine okFlag_mk rfl ⟨?_, ⟨trivial, (contR_ints hm0).1, trivial⟩⟩
       simp [eqvRL, eqvR, sgSig, fsts, nth, sameN_self]
     · simp [ho]
   · trivial
 · trivial
def ppL2 (g : Nat → Int) : Fam := ⟨Nat, fun i =>
 ⟨22, [(3, .slcc 1 i), (6, .slc 0 0 2 2), (7, .int .i64 2), (8, .int .i64 i)], [(0, ⟨false, 28, .ints .i64 4 g, 0⟩), (1, ⟨true, 23, .ints .i64 (2 * i) g, 2⟩)], 2⟩, fun i => i ≤ 2, fun i => 2 - i⟩
noncomputable def polyPts2C : List SV → RdM
 | [.slc n 0 2 2] => .read n fun o0 => (match intsFrom .i64 o0.c with
   | some (m0, g) => .ret ⟨[.slc 0 0 2 2], [(0, ⟨false, 28, .ints .i64 m0 g, 0⟩)], .slcc 1 2, [], [(1, ⟨true, 23, .ints .i64 4 g, 2⟩)], some (m0 = 4 ∧ True)⟩
   | none => .fail)
 | _ => .fail
theorem vc_polyPts2 (g : Nat → Int) : runA G0 1 [(3, ppL2 g)] [] (codeOf Tryz.f79) (init Tryz.f79.ntmps [.slc 0 0 2 2] [(0, ⟨false, 28, .ints .i64 (4) g, 0⟩)] 1) (endK G0.E.T Tryz.f79.results.toList fun S v => postP 1 ⟨[.slc 0 0 2 2], [(0, ⟨false, 28, .ints .i64 (4) g, 0⟩)], .slcc 1 2, [], [(1, ⟨true, 23, .ints .i64 4 g, 2⟩)], some (4 = 4 ∧ True)⟩ S v) = (
(∃ (i : Nat), i ≤ 2 ∧ (i = 0 ∧ (True ∧ 0 = 0 ∧ 2 = 2 ∧ 2 = 2) ∧ (2 : Int) = 2 ∧ 0 = (↑i : Int) ∧ True) ∧ True ∧ (4 ≤ 4 ∧ ∀ (i : Nat), i < 4 → g i
= g i) ∧ True ∧ 2 * i = 0 ∧ True) ∧ ∀ (i : Nat), i ≤ 2 → (decide ((↑i : Int) < 2) = true → ((0 ≤ (↑i : Int) ∧ (↑i : Int) < 2) ∧ 1 ≤ 4) ∧ 0 + Int.toNat (↑i : Int) * 2 + 2 ≤ 4 ∧ (2 * i = i * 2 ∧ (i + 1) * 16 ≤ 140737488355328 ∧ i + 1 ≤ 9223372036854775807) ∧ ∃ (i' : Nat), i' ≤ 2 ∧ 2 - i' < 2 - i ∧ ((True ∧ i + 1 = i')
∧ (True ∧ 0 = 0 ∧ 2 = 2 ∧ 2 = 2) ∧ (2 : Int) = 2 ∧ Go.IntKind.wrap .i64 ((↑i : Int) + 1) = (↑i' : Int) ∧ True) ∧ True ∧ (4 ≤ 4 ∧ ∀ (i : Nat), i < 4 → g i = g i) ∧
 True ∧ (23 = 23 ∧ 2 = 2 ∧ 2 * i' ≤ 2 * i + List.length [g (0 + Int.toNat (↑i : Int) * 2), g (0 + Int.toNat (↑i : Int) * 2 + 1)] ∧ ∀ (i_1 : Nat), i_1 < 2 *
 i' → more (2 * i) g [g (0 + Int.toNat (↑i : Int) * 2), g (0 + Int.toNat (↑i : Int) * 2 + 1)] (0 : Int) i_1 = g i_1) ∧ True) ∧ (decide ((↑i : Int) < 2) = false → (True ∧ i = 2) ∧
 True ∧ (23 = 23 ∧ 2 = 2 ∧ 4 ≤ 2 * i ∧ ∀ (i : Nat), i < 4 → g i = g i) ∧ True)) := by kernel_rfl
theorem polyPts2 : ConOk Tryz.prog 79 (conR polyPts2C) := by
 refine con_of_vc g0 Tryz.func79 rfl (by kernel_rfl) fun args => ?_
 unfold polyPts2C
 split
 · rename_i n
   intro o0
   show RdM.All _ (match intsFrom .i64 o0.c with | some (m, g) => _ | none => _) _
   split
   · rename_i m0 g hm0
     intro ho
     replace ho : m0 = 4 ∧ True := ho
     obtain ⟨hsz0, ho⟩ := ho
     subst hsz0
     refine ⟨?_, _, _, (vc_polyPts2 g).mpr ?_⟩
     · refine okFlag_mk rfl ⟨?_, ⟨trivial, (contR_ints hm0).1, trivial⟩⟩
       simp [eqvRL, eqvR, sgSig, fsts, nth, sameN_self]
     · refine ⟨⟨0, by simp⟩, fun i hi => ⟨fun h => ?_, fun h => ?_⟩⟩
       · have h := of_decide_eq_true h
         have e : 0 + (i : Int).toNat * 2 = 2 * i := by omega
         have hw : IntKind.i64.wrap ((i : Int) + 1) = ((i + 1 : Nat) : Int) := by rw [wrap64 (by omega) (by omega)]; omega
         rw [e, hw]
         refine ⟨by omega, by omega, by omega, i + 1, by omega, by omega, ?_⟩
         simp
         exact ⟨by omega, more_two rfl rfl⟩
       · have h := of_decide_eq_false h
         have : i = 2 := by omega
         subst this
         simp
   · trivial
 · trivial
def slcIs : List SV → Bool
 | [.slc _ _ _ _] => true
 | _ => false
noncomputable def GPS2 : Ctx := ⟨⟨tys, []⟩, [(79, swC slcIs (conR polyPts2C) (conR polyPtsC))]⟩
theorem gPS2 : CtxOk Tryz.prog GPS2 := ⟨⟨tysOk, FlatsOk.nil⟩, GamOk.cons (ConOk.sw polyPts2 polyPts) GamOk.nil, by kernel_rfl⟩
noncomputable def polyRcC : List SV → RdM
 | [.agg [.int .i64 a, .int .i64 b, .int .i64 c, .int .i64 d]] => .ret ⟨[.agg [.int .i64 a, .int .i64 b, .int .i64 c, .int .i64 d]], [], .agg [.int .i64 1, .slcc 0 2, .nils], [], [(0, ⟨true, 23, .ints .i64 4 (pq4 a b c d), 2⟩)], some (True)⟩
 | _ => .fail
theorem vc_polyRc (a b c d : Int) : runA GPS2 0 [] [] (codeOf Tryz.f54) (init Tryz.f54.ntmps [.agg [.int .i64 a, .int .i64 b, .int .i64 c, .int .i64 d]] [] 0) (endK GPS2.E.T Tryz.f54.results.toList fun S v => postP 0 ⟨[.agg [.int .i64 a, .int .i64 b, .int .i64 c, .int .i64 d]], [], .agg [.int .i64 1, .slcc 0 2, .nils], [], [(0, ⟨true, 23, .ints .i64 4 (pq4 a b c d), 2⟩)], some (True)⟩ S v) = (
(List.length [a, b, c, d] = 4 ∧ True) ∧ ((1 : Int) = 1 ∧ (True ∧ 2 = 2) ∧ True ∧ True) ∧ True ∧ (23 = 23 ∧ 2 = 2 ∧ 4 ≤ 4 ∧ ∀ (i : Nat), i < 4 → List.getD [a, b,
 c, d] i (0 : Int) = pq4 a b c d i) ∧ True) := by kernel_rfl
theorem polyRc : ConOk Tryz.prog 54 (conR polyRcC) := by
 refine con_of_vc gPS2 Tryz.func54 rfl (by kernel_rfl) fun args => ?_
 unfold polyRcC
 split
 · rename_i a b c d
   intro ho
   replace ho : True := ho
   refine ⟨?_, _, _, (vc_polyRc a b c d).mpr ?_⟩
   · refine okFlag_mk rfl ⟨?_, trivial⟩
     simp [eqvRL, eqvR, kEq_self]
   · simp [pq4]
 · trivial
def psF (len : Nat) (g : Nat → Int) (i k : Int) (hs hc : SV) (x : Heap) (m : Nat) : Fam := ⟨Nat, fun _ =>
 ⟨26, [(2, .ptr (m + 2) 0), (3, .ptr m 0), (11, hs), (12, .int .i64 k), (13, .int .i64 i)], (m, ⟨true, 39, .cells [.int .i64 3, .slcc (m + 1) len, hc], 0⟩) :: (m + 1, ⟨true, 23, .ints .i64 (2 * len) g, 2⟩) :: (m + 2, ⟨true, 39, .cells [.int .i64 0, .nils, .nils], 0⟩) :: x, m + 3 + x.length⟩, fun _ => True, fun _ => 0⟩
noncomputable def polySh0C : List SV → RdM
 | [.agg [.slcc n len, .nils]] => .read n fun o0 => (match intsFrom .i64 o0.c with
   | some (m0, g) => .ret ⟨[.agg [.slcc 0 len, .nils]], [(0, ⟨false, 28, .ints .i64 m0 g, 0⟩)], .agg [.int .i64 3, .slcc 1 len, .nils], [], [(1, ⟨true, 23, .ints .i64 (2 * len) g, 2⟩)], some (m0 = 2 * len ∧ len ≤ 1000000)⟩
   | none => .fail)
 | _ => .fail
theorem vc_polySh0 (len : Nat)  (g : Nat → Int) : runA GPS1 1 [(3, .unr [psF len g 0 0 .nils .nils [] 1])] [] (codeOf Tryz.f48) (init Tryz.f48.ntmps [.agg [.slcc 0 len, .nils]] [(0, ⟨false, 28, .ints .i64 (2 * len) g, 0⟩)] 1) (endK GPS1.E.T Tryz.f48.results.toList fun S v => postP 1 ⟨[.agg [.slcc 0 len, .nils]], [(0, ⟨false, 28, .ints .i64 (2 * len) g, 0⟩)], .agg [.int .i64 3, .slcc 1 len, .nils], [], [(1, ⟨true, 23, .ints .i64 (2 * len) g, 2⟩)], some (2 * len = 2 * len ∧ len ≤ 1000000)⟩ S v) = (
(2 * len = 2 * len ∧ len ≤ 1000000) ∧ (∃ (_ : Nat), True ∧ ((True ∧ 0 = 0) ∧ (True ∧ 0 = 0) ∧ True ∧ (0 : Int) = 0 ∧ (0 : Int) = 0 ∧ True) ∧ True ∧ (39 = 39 ∧ 0 = 0 ∧ (3 : Int) = 3 ∧ (True ∧ len = len) ∧ True ∧ True) ∧ True ∧ (23 = 23 ∧ 2 = 2 ∧ 2 * len ≤ 2 * len ∧ ∀ (i : Nat), i < 2 * len → g i = g i) ∧ True ∧ (39 = 39 ∧ 0 = 0 ∧ (0 : Int) = 0 ∧ True ∧ True ∧ True) ∧ True) ∧ (∀ (_ : Nat), True → (false = true → False) ∧ (false = false → ((3 : Int) = 3 ∧ (True ∧ len = len) ∧ True ∧ True) ∧ True ∧ (23 = 23 ∧ 2 = 2 ∧ 2 * len ≤ 2 * len ∧ ∀ (i : Nat), i < 2 * len → g i = g i) ∧ True)) ∧ True) := by kernel_rfl
theorem polySh0 : ConOk Tryz.prog 48 (conR polySh0C) := by
 refine con_of_vc gPS1 Tryz.func48 rfl (by kernel_rfl) fun args => ?_
 unfold polySh0C
 split
 · rename_i n len
   intro o0
   show RdM.All _ (match intsFrom .i64 o0.c with | some (m, g) => _ | none => _) _
   split
   · rename_i m0 g hm0
     intro ho
     replace ho : m0 = 2 * len ∧ len ≤ 1000000 := ho
     obtain ⟨hsz0, ho⟩ := ho
     subst hsz0
     refine ⟨?_, _, _, (vc_polySh0 len g).mpr ?_⟩
     · refine okFlag_mk rfl ⟨?_, ⟨trivial, (contR_ints hm0).1, trivial⟩⟩
       simp [eqvRL, eqvR, sgSig, fsts, nth, sameN_self]
     · simp [ho]
   · trivial
 · trivial
def npIs0 : List SV → Bool
 | [_, .nils, _] => true
 | _ => false
noncomputable def GSP : Ctx := ⟨⟨tys, []⟩, [(74, conR ptsC), (91, swC npIs0 (conR newPoly0C) (conR newPoly1C))]⟩
theorem gSP : CtxOk Tryz.prog GSP := ⟨⟨tysOk, FlatsOk.nil⟩, GamOk.cons pts (GamOk.cons (ConOk.sw newPoly0 newPoly1) GamOk.nil), by kernel_rfl⟩
def sp9 (len : Nat) (g : Nat → Int) (km : Int × Int) : Fam := ⟨Nat, fun _ =>
 ⟨53, [(1, .ptr 1 0), (2, .ptr 2 0), (5, .nils), (30, .nils), (31, .int .i64 0), (32, .int .i64 0)], [(0, ⟨false, 23, .ints .i64 (2 * len) g, 0⟩), (1, ⟨false, 148, optC km.1 km.2, 0⟩), (2, ⟨true, 39, .cells [.int .i64 3, .slcc 0 len, .nils], 0⟩)], 3⟩, fun _ => True, fun _ => 0⟩
noncomputable def shaped30C : List SV → RdM
 | [.agg [.int .i64 3, .slcc n len, .nils], .ptr o 0] => .read n fun o0 => (match intsFrom .i64 o0.c with
   | some (m0, g) => .read o fun o1 => (match optOf o1.c with
   | some (km, mm) => .ret ⟨[.agg [.int .i64 3, .slcc 0 len, .nils], .ptr 1 0], [(0, ⟨false, 23, .ints .i64 m0 g, 0⟩), (1, ⟨false, 148, optC km mm, 0⟩)], .ifc 121 (.ptr 2 0), [], [(2, ⟨true, 137, .cells [.ifc 157 (.ptr 3 0), .nils], 0⟩), (3, ⟨true, 150, .cells (rectS len true (fI g) 4 0), 0⟩), (4, ⟨true, 100, .flts .f64 (2 * len) (fI g), 2⟩)], some (m0 = 2 * len ∧ km = 0 ∧ len ≤ 1000000 ∧ (ppBig len true = true → ppOk (fI g) len))⟩
   | none => .fail)
   | none => .fail)
 | _ => .fail
theorem vc_shaped30 (len : Nat) (km mm : Int)  (g : Nat → Int) : runA GSP 2 [(9, .unr [sp9 len g (km, mm)])] [] (codeOf Tryz.f63) (init Tryz.f63.ntmps [.agg [.int .i64 3, .slcc 0 len, .nils], .ptr 1 0] [(0, ⟨false, 23, .ints .i64 (2 * len) g, 0⟩), (1, ⟨false, 148, optC km mm, 0⟩)] 2) (endK GSP.E.T Tryz.f63.results.toList fun S v => postP 2 ⟨[.agg [.int .i64 3, .slcc 0 len, .nils], .ptr 1 0], [(0, ⟨false, 23, .ints .i64 (2 * len) g, 0⟩), (1, ⟨false, 148, optC km mm, 0⟩)], .ifc 121 (.ptr 2 0), [], [(2, ⟨true, 137, .cells [.ifc 157 (.ptr 3 0), .nils], 0⟩), (3, ⟨true, 150, .cells (rectS len true (fI g) 4 0), 0⟩), (4, ⟨true, 100, .flts .f64 (2 * len) (fI g), 2⟩)], some (2 * len = 2 * len ∧ km = 0 ∧ len ≤ 1000000 ∧ (ppBig len true = true → ppOk (fI g) len))⟩ S v) = (
(false = true → False) ∧ (false = false → (false = true → (2 * len = 2 * len ∧ len ≤ 1000000) ∧ False) ∧ (false = false → (true = true → (∃ (_ : Nat), True ∧ ((True ∧ 0 = 0) ∧ (True ∧ 0 = 0) ∧
 True ∧ True ∧ (0 : Int) = 0 ∧ (0 : Int) = 0 ∧ True) ∧ True ∧ (2 * len ≤ 2 * len ∧ ∀ (i : Nat), i < 2 * len → g i = g i) ∧ True ∧ (km = km ∧ mm = mm ∧ True) ∧ True ∧ (39 = 39 ∧ 0 = 0 ∧ (3 : Int) = 3 ∧ (True ∧ len = len) ∧ True ∧ True) ∧ True) ∧ (∀ (_ : Nat), True → (false = true → False) ∧ (false = false → (2 * len = 2 * len ∧ len ≤ 1000000) ∧ (2 * len = 2 * len ∧ km = (0 :
 Int) ∧ len ≤ 1000000 ∧ (ppBig len true = true → ppOk (fI g) len)) ∧ (True ∧ 0 = 0) ∧ True ∧ (137 = 137 ∧ 0 = 0 ∧ (True ∧ 0 = 0) ∧ True ∧ True) ∧ True ∧ (150 = 150 ∧ 0 = 0 ∧ true = true ∧ (ppBig len true && fGt .f64 (cwF (fI g) len len) 0) = (ppBig len
 true && fGt .f64 (cwF (fI g) len len) 0) ∧ (ppBig len true && !(dcF (fI g) len len).2) = (ppBig len true && !Prod.snd
(dcF (fI g) len len)) ∧ (0 : Int) = 0 ∧ True ∧ pick (ppBig len true) (rlo (fI g) 0 len) = pick
(ppBig len true) (rlo (fI g) 0 len) ∧ pick (ppBig len true) (rlo (fI g) 1 len) = pick
(ppBig len true) (rlo (fI g) 1 len) ∧ pick (ppBig len true) (rhi (fI g) 0 len) = pick
(ppBig len true) (rhi (fI g) 0 len) ∧ pick (ppBig len true) (rhi (fI g) 1 len) = pick
(ppBig len true) (rhi (fI g) 1 len) ∧ (True ∧ len = len) ∧ True) ∧ True ∧ (100 = 100 ∧ 2 = 2 ∧ 2 * len ≤ 2 * len ∧ ∀ (i : Nat), i < 2 * len → fI g i = fI g i) ∧ True)) ∧ True) ∧ (true = false → False)))) := by kernel_rfl
theorem shaped30 : ConOk Tryz.prog 63 (conR shaped30C) := by
 refine con_of_vc gSP Tryz.func63 rfl (by kernel_rfl) fun args => ?_
 unfold shaped30C
 split
 · rename_i n len o
   intro o0
   show RdM.All _ (match intsFrom .i64 o0.c with | some (m, g) => _ | none => _) _
   split
   · rename_i m0 g hm0
     intro o1
     show RdM.All _ (match optOf o1.c with | some (km, mm) => _ | none => _) _
     split
     · rename_i km mm hm1
       intro ho
       replace ho : m0 = 2 * len ∧ km = 0 ∧ len ≤ 1000000 ∧ (ppBig len true = true → ppOk (fI g) len) := ho
       obtain ⟨hsz0, ho⟩ := ho
       subst hsz0
       refine ⟨?_, _, _, (vc_shaped30 len km mm g).mpr ?_⟩
       · refine okFlag_mk rfl ⟨?_, ⟨trivial, (contR_ints hm0).1, ⟨trivial, optOf_spec hm1, trivial⟩⟩⟩
         simp [eqvRL, eqvR, kEq_self, sgSig, fsts, nth, sameN_self]
       · obtain ⟨hk, hl, hok⟩ := ho
         simp [hk, hl]
         exact hok
     · trivial
   · trivial
 · trivial
def pe5 (len : Nat) (g : Nat → Int) : Fam := ⟨Nat, fun i =>
 ⟨49, [(0, .slcc 0 len), (3, .slcc 1 i), (11, .int .i64 ((len : Int) - 1)), (12, .int .i64 i)], [(0, ⟨false, 28, .ints .i64 (2 * len) g, 0⟩), (1, ⟨true, 29, .ints .i64 (4 * i) (segI g len), 4⟩)], 2⟩, fun i => i + 1 ≤ len ∧ 3 ≤ len, fun i => len - i⟩
noncomputable def polyEdC : List SV → RdM
 | [.slcc n len] => .read n fun o0 => (match intsFrom .i64 o0.c with
   | some (m0, g) => .ret ⟨[.slcc 0 len], [(0, ⟨false, 28, .ints .i64 m0 g, 0⟩)], .slcc 1 (nsegs len true g), [], [(1, ⟨true, 29, .ints .i64 (4 * nsegs len true g) (segI g len), 4⟩)], some (m0 = 2 * len ∧ len ≤ 1000000)⟩
   | none => .fail)
 | _ => .fail
theorem vc_polyEd (len : Nat)  (g : Nat → Int) : runA GS 1 [(5, pe5 len g)] [] (codeOf Tryz.f86) (init Tryz.f86.ntmps [.slcc 0 len] [(0, ⟨false, 28, .ints .i64 (2 * len) g, 0⟩)] 1) (endK GS.E.T Tryz.f86.results.toList fun S v => postP 1 ⟨[.slcc 0 len], [(0, ⟨false, 28, .ints .i64 (2 * len) g, 0⟩)], .slcc 1 (nsegs len true g), [], [(1, ⟨true, 29, .ints .i64 (4 * nsegs len true g) (segI g len), 4⟩)], some (2 * len = 2 * len ∧ len ≤ 1000000)⟩ S v) = (
(decide ((↑len : Int) < 3) = true → nsegs len true g = 0 ∧ True ∧ 4 * nsegs len true g = 0 ∧ True) ∧ (decide ((↑len : Int) < 3) = false → (∃ (i : Nat), (i + 1 ≤ len ∧
3 ≤ len) ∧ ((True ∧ len = len) ∧ i = 0 ∧ Go.IntKind.wrap .i64 ((↑len : Int) - 1) = (↑len : Int) - 1 ∧ 0 = (↑i : Int) ∧ True) ∧ True ∧ (2 * len ≤ 2 * len ∧ ∀ (i : Nat), i < 2 * len → g i
= g i) ∧ True ∧ 4 * i = 0 ∧ True) ∧ ∀ (i : Nat), i + 1 ≤ len ∧ 3 ≤ len → (decide ((↑i : Int) < (↑len : Int) - 1) = true → ((0 ≤ (↑i : Int) ∧ (↑i : Int) < (↑len : Int)) ∧ 1 ≤ 2 * len) ∧
0 + Int.toNat (↑i : Int) * 2 + 2 ≤ 2 * len ∧ (((0 : Int) ≤ Go.IntKind.wrap .i64 ((↑i : Int) + 1) ∧ Go.IntKind.wrap .i64 ((↑i : Int) + 1) < (↑len : Int)) ∧ 1 ≤ 2 * len) ∧ 0 +
 Int.toNat (Go.IntKind.wrap .i64 ((↑i : Int) + 1)) * 2 + 2 ≤ 2 * len ∧ (4 * i = i * 4 ∧ (i + 1) * 32 ≤ 140737488355328 ∧ i + 1 ≤ 9223372036854775807) ∧ true = true
∧ ∃ (i' : Nat), (i' + 1 ≤ len ∧ 3 ≤ len) ∧ len - i' < len - i ∧ ((True ∧ len = len) ∧ (True ∧ i + 1 = i') ∧ (↑len : Int) - 1 = (↑len : Int) - 1 ∧ Go.IntKind.wrap .i64 ((↑i : Int) + 1) = (↑i' : Int) ∧
 True) ∧ True ∧ (2 * len ≤ 2 * len ∧ ∀ (i : Nat), i < 2 * len → g i = g i) ∧ True ∧ (29 = 29 ∧ 4 = 4 ∧ 4 * i' ≤ 4 * i + List.length [g (0 + Int.toNat (↑i : Int) * 2), g (0 + Int.toNat (↑i : Int) * 2 + 1), g (0 + Int.toNat (Go.IntKind.wrap .i64 ((↑i : Int) + 1)) * 2), g (0 + Int.toNat (Go.IntKind.wrap .i64 ((↑i : Int) + 1)) * 2 + 1)] ∧ ∀ (i_1 : Nat), i_1 < 4 * i' → more (4 * i) (segI g len) [g (0 + Int.toNat (↑i : Int) * 2), g (0 + Int.toNat (↑i : Int) * 2 + 1), g (0 + Int.toNat
(Go.IntKind.wrap .i64 ((↑i : Int) + 1)) * 2), g (0 + Int.toNat (Go.IntKind.wrap .i64 ((↑i : Int) + 1)) * 2 + 1)] (0 : Int) i_1 = segI g len i_1) ∧ True) ∧ (decide ((↑i : Int) < (↑len :
 Int) - (1 : Int)) = false → (((0 : Int) ≤ Go.IntKind.wrap .i64 ((↑len : Int) - 1) ∧ Go.IntKind.wrap .i64 ((↑len : Int) - 1) < (↑len : Int)) ∧ 1 ≤ 2 * len) ∧ 0 + Int.toNat (Go.IntKind.wrap .i64 ((↑len : Int) -
(1 : Int))) * 2 + 2 ≤ 2 * len ∧ (((0 : Int) ≤ 0 ∧ 0 < (↑len : Int)) ∧ 1 ≤ 2 * len) ∧ 2 ≤ 2 * len ∧ true = true ∧ ((!(g (0 + Int.toNat (Go.IntKind.wrap .i64 ((↑len : Int)
- (1 : Int))) * 2) == g 0 && (g (0 + Int.toNat (Go.IntKind.wrap .i64 ((↑len : Int) - 1)) * 2 + 1) == g 1 && true))) = true → (((0 : Int) ≤ 0 ∧ 0 < (↑len : Int)) ∧ 1 ≤ 2 * len) ∧ 2 ≤ 2 * len ∧ (4 * i = i * 4 ∧ (i + 1) * 32 ≤ 140737488355328 ∧ i + 1 ≤ 9223372036854775807) ∧ true = true ∧ (True ∧ i + 1 = nsegs len
 true g) ∧ True ∧ (29 = 29 ∧ 4 = 4 ∧ 4 * nsegs len true g ≤ 4 * i + List.length [g (0 + Int.toNat (Go.IntKind.wrap .i64 ((↑len : Int) - 1)) * 2), g (0 +
 Int.toNat (Go.IntKind.wrap .i64 ((↑len : Int) - 1)) * 2 + 1), g 0, g 1] ∧ ∀ (i_1 : Nat), i_1 < 4 * nsegs len true g → more (4 * i) (segI g len) [g (0 + Int.toNat (Go.IntKind.wrap .i64 ((↑len : Int) - 1)) * 2), g (0 + Int.toNat (Go.IntKind.wrap .i64 ((↑len : Int) - 1)) * 2 + 1), g 0, g 1] (0 : Int) i_1 = segI g
 len i_1) ∧ True) ∧ ((!(g (0 + Int.toNat (Go.IntKind.wrap .i64 ((↑len : Int) - 1)) * 2) == g 0 && (g (0 + Int.toNat (Go.IntKind.wrap .i64 ((↑len : Int) - 1)) * 2 + 1) == g 1 &&
 true))) = false → (True ∧ i = nsegs len true g) ∧ True ∧ (29 = 29 ∧ 4 = 4 ∧ 4 * nsegs len true g ≤ 4 * i ∧ ∀ (i : Nat), i < 4 * nsegs len
 true g → segI g len i = segI g len i) ∧ True)))) := by kernel_rfl
theorem polyEd : ConOk Tryz.prog 86 (conR polyEdC) := by
 refine con_of_vc gS Tryz.func86 rfl (by kernel_rfl) fun args => ?_
 unfold polyEdC
 split
 · rename_i n len
   intro o0
   show RdM.All _ (match intsFrom .i64 o0.c with | some (m, g) => _ | none => _) _
   split
   · rename_i m0 g hm0
     intro ho
     replace ho : m0 = 2 * len ∧ len ≤ 1000000 := ho
     obtain ⟨hsz0, ho⟩ := ho
     subst hsz0
     refine ⟨?_, _, _, (vc_polyEd len g).mpr ?_⟩
     · refine okFlag_mk rfl ⟨?_, ⟨trivial, (contR_ints hm0).1, trivial⟩⟩
       simp [eqvRL, eqvR, sgSig, fsts, nth, sameN_self]
     · have hwl : IntKind.i64.wrap ((len : Int) - 1) = (len : Int) - 1 := wrap64 (by omega) (by omega)
       simp only [true_and, and_true, eq_self, Nat.le_refl, implies_true, hwl]
       refine ⟨fun h => ?_, fun h => ⟨⟨0, ?_, ⟨⟨rfl, rfl⟩, rfl⟩⟩, fun i hi => ⟨fun h => ?_, fun h => ?_⟩⟩⟩
       · have h := of_decide_eq_true h
         have : nsegs len true g = 0 := if_pos (.inr ⟨rfl, by omega⟩)
         simp [this]
       · have h := of_decide_eq_false h
         exact ⟨by omega, by omega⟩
       · have h := of_decide_eq_true h
         have e : 0 + (i : Int).toNat * 2 = 2 * i := by omega
         have hw : IntKind.i64.wrap ((i : Int) + 1) = ((i + 1 : Nat) : Int) := by rw [wrap64 (by omega) (by omega)]; omega
         have e1 : 0 + ((i + 1 : Nat) : Int).toNat * 2 = 2 * i + 2 := by omega
         obtain ⟨s0, s1, s2, s3⟩ := segI_lo (g := g) (len := len) (i := i) (by omega)
         rw [hw, e, e1]
         refine ⟨⟨⟨by omega, by omega⟩, by omega⟩, by omega, ⟨⟨by omega, by omega⟩, by omega⟩, by omega, ?_, i + 1, ⟨by omega, by omega⟩, by omega, ⟨rfl, rfl⟩, ?_, more_four s0.symm s1.symm s2.symm s3.symm⟩
         · exact ⟨by omega, by omega, by omega⟩
         · show 4 * (i + 1) ≤ 4 * i + 4
           omega
       · have h := of_decide_eq_false h
         have hil : i = len - 1 := by omega
         subst hil
         have e : 0 + ((len : Int) - 1).toNat * 2 = 2 * len - 2 := by omega
         rw [e]
         have hn2 : ¬ (len < 2 ∨ true = true ∧ len < 3) := by
           intro hh
           rcases hh with hh | ⟨hh, hh'⟩ <;> omega
         have e1 : 2 * len - 2 + 1 = 2 * len - 1 := by omega
         rw [e1]
         refine ⟨⟨⟨by omega, by omega⟩, by omega⟩, by omega, ⟨⟨by omega, by omega⟩, by omega⟩, by omega, fun hne => ?_, fun heq => ?_⟩
         · have hns : nsegs len true g = len := by
             unfold nsegs
             rw [if_neg hn2, if_pos ⟨rfl, fun hh => by simp [hh.1, hh.2] at hne⟩]
           obtain ⟨s0, s1, s2, s3⟩ := segI_hi (g := g) (len := len) (i := len - 1) (by omega)
           have e2 : 2 * (len - 1) = 2 * len - 2 := by omega
           rw [e2] at s0 s1
           rw [e1] at s1
           rw [hns]
           refine ⟨⟨⟨by omega, by omega⟩, by omega⟩, by omega, ⟨by omega, by omega, by omega⟩, by omega, ?_, ?_⟩
           · show 4 * len ≤ 4 * (len - 1) + 4
             omega
           · have := more_four s0.symm s1.symm s2.symm s3.symm
             rw [show len - 1 + 1 = len by omega] at this
             exact this
         · have hns : nsegs len true g = len - 1 := by
             unfold nsegs
             rw [if_neg hn2, if_neg]
             simp at heq
             exact fun hh => hh.2 ⟨heq.1, heq.2⟩
           rw [hns]
           simp
   · trivial
 · trivial
def upZ (a b c d : Int) : Bool := decide (b < d ∨ b = d ∧ a < c)
def polyUpF : PF := fun
 | [.agg [.int .i64 a, .int .i64 b, .int .i64 c, .int .i64 d]] => some (.bool (upZ a b c d), none)
 | _ => none
theorem vc_polyUp (R : SV → Prop) (a b c d : Int) : runA G0 0 [] [] (codeOf Tryz.f88) (init Tryz.f88.ntmps [.agg [.int .i64 a, .int .i64 b, .int .i64 c, .int .i64 d]] [] 0) (endK G0.E.T Tryz.f88.results.toList fun _ v => R v) = (
(((0 : Int) ≤ 1 ∧ (1 : Int) < 2) ∧ True) ∧ (((0 : Int) ≤ 0 ∧ (0 : Int) < 2) ∧ True) ∧ (decide (b < d) = true → R SV.tt) ∧ (decide (b < d) = false → (((0 : Int) ≤ 1 ∧ (1 : Int) < 2) ∧ True) ∧ (((0 : Int)
≤ (0 : Int) ∧ (0 : Int) < 2) ∧ True) ∧ ((d == b) = true → (((0 : Int) ≤ 1 ∧ (1 : Int) < 2) ∧ True) ∧ (((0 : Int) ≤ 0 ∧ (0 : Int) < 2) ∧ True) ∧ R (SV.bool (decide (a < c)))) ∧ ((d == b) = false → R SV.ff))) := by kernel_rfl
theorem polyUp : PureOk Tryz.prog 88 polyUpF := by
 refine pure_of_vc g0 Tryz.func88 rfl (by kernel_rfl) ?_
 intro args v p h hp
 unfold polyUpF at h
 split at h
 · rename_i a b c d
   injection h with h; injection h with h1 h2; subst h1; subst h2
   clear hp
   refine ⟨rfl, _, _, (vc_polyUp _ a b c d).mpr ?_⟩
   simp only [eqv, upZ]
   grind
 · cases h
def eZ (g : Nat → Int) (len k i : Nat) : Int := segI g len (4 * i + k)
def onZ (g : Nat → Int) (len : Nat) (px py : Int) (i : Nat) : Bool := decide (On (eZ g len 0 i) (eZ g len 1 i) (eZ g len 2 i) (eZ g len 3 i) px py)
def lfZ (g : Nat → Int) (len : Nat) (px py : Int) (i : Nat) : Bool := decide (Lft (eZ g len 0 i) (eZ g len 1 i) (eZ g len 2 i) (eZ g len 3 i) px py)
def rsR (on lf : Nat → Bool) : Nat → Bool × Bool
 | 0 => (false, false)
 | i + 1 => if (rsR on lf i).1 = true then rsR on lf i else if on i = true then (true, (rsR on lf i).2) else (false, (rsR on lf i).2 != lf i)
theorem rsR_stop {on lf : Nat → Bool} {i : Nat} (h : (rsR on lf i).1 = true) : ∀ m, i ≤ m → rsR on lf m = rsR on lf i
 | 0, hm => by
   have : i = 0 := by omega
   subst this; rfl
 | m + 1, hm => by
   by_cases e : i = m + 1
   · subst e; rfl
   · have ih := rsR_stop h m (by omega)
     show (if (rsR on lf m).1 = true then rsR on lf m else _) = _
     rw [ih, if_pos h]
def rsV (r : Bool × Bool) : Int := if r.1 = true then 0 else if r.2 = true then 1 else -1
def rgS (g : Nat → Int) (len : Nat) (px py : Int) : Int := rsV (rsR (onZ g len px py) (lfZ g len px py) (nsegs len true g))
theorem nsegs_le (len : Nat) (b : Bool) (g : Nat → Int) : nsegs len b g ≤ len := by
 unfold nsegs
 split
 · omega
 · split <;> omega
theorem segI_in {g : Nat → Int} {len i k : Nat} (hi : i < len) (hk : k < 4) (h2 : 2 ≤ len) : ∃ j, j < 2 * len ∧ segI g len (4 * i + k) = g j := by
 have h1 : (4 * i + k) / 4 = i := by omega
 have h3 : (4 * i + k) % 4 = k := by omega
 unfold segI
 rw [h1, h3]
 split
 · exact ⟨2 * i + k, by omega, rfl⟩
 · split
   · exact ⟨2 * i + k, by omega, rfl⟩
   · exact ⟨k - 2, by omega, rfl⟩
theorem eZ_small {g : Nat → Int} {len : Nat} (hg : ∀ j, j < 2 * len → small (g j)) {k i : Nat} (hi : i < nsegs len true g) (hk : k < 4) : small (eZ g len k i) := by
 have h1 := nsegs_le len true g
 have h2 : 2 ≤ len := by
   rcases Nat.lt_or_ge len 2 with h | h
   · have : nsegs len true g = 0 := if_pos (.inl h)
     omega
   · exact h
 obtain ⟨j, hj, e⟩ := segI_in (g := g) (show i < len by omega) hk h2
 unfold eZ
 rw [e]
 exact hg j hj
noncomputable def GRS : Ctx := ⟨⟨tys, []⟩, [(86, conR polyEdC), (71, pureCon onF), (98, pureCon leftF)]⟩
theorem gRS : CtxOk Tryz.prog GRS := ⟨⟨tysOk, FlatsOk.nil⟩, GamOk.cons polyEd (GamOk.cons (.pure on) (GamOk.cons (.pure left) GamOk.nil)), by kernel_rfl⟩
def rs3 (len : Nat) (g : Nat → Int) (px py : Int) : Fam := ⟨Nat, fun i =>
 ⟨31, [(3, .ptr 1 0), (5, .bool (rsR (onZ g len px py) (lfZ g len px py) i).2), (9, .slcc 2 (nsegs len true g)), (10, .int .i64 (nsegs len true g)), (11, .int .i64 i)], [(1, ⟨true, 28, .cells [.int .i64 px, .int .i64 py], 0⟩), (2, ⟨true, 29, .ints .i64 (4 * nsegs len true g) (segI g len), 4⟩)], 3⟩, fun i => i ≤ nsegs len true g ∧ (rsR (onZ g len px py) (lfZ g len px py) i).1 = false, fun i => nsegs len true g - i⟩
noncomputable def ringSdC : List SV → RdM
 | [.slcc n len, .agg [.int .i64 px, .int .i64 py]] => .read n fun o0 => (match intsFrom .i64 o0.c with
   | some (m0, g) => .ret ⟨[.slcc 0 len, .agg [.int .i64 px, .int .i64 py]], [(0, ⟨false, 28, .ints .i64 m0 g, 0⟩)], .int .i64 (rgS g len px py), [], [], some (m0 = 2 * len ∧ len ≤ 1000000 ∧ (∀ j, j < 2 * len → small (g j)) ∧ small px ∧ small py)⟩
   | none => .fail)
 | _ => .fail
theorem vc_ringSd (len : Nat) (px py : Int)  (g : Nat → Int) : runA GRS 1 [(3, rs3 len g px py)] [] (codeOf Tryz.f89) (init Tryz.f89.ntmps [.slcc 0 len, .agg [.int .i64 px, .int .i64 py]] [(0, ⟨false, 28, .ints .i64 (2 * len) g, 0⟩)] 1) (endK GRS.E.T Tryz.f89.results.toList fun S v => postP 1 ⟨[.slcc 0 len, .agg [.int .i64 px, .int .i64 py]], [(0, ⟨false, 28, .ints .i64 (2 * len) g, 0⟩)], .int .i64 (rgS g len px py), [], [], some (2 * len = 2 * len ∧ len ≤ 1000000 ∧ (∀ j, j < 2 * len → small (g j)) ∧ small px ∧ small py)⟩ S v) = (
(2 * len = 2 * len ∧ len ≤ 1000000) ∧ (∃ (i : Nat), (i ≤ nsegs len true g ∧ (rsR (onZ g len px py) (lfZ g len px py) i).1 = false) ∧ ((True ∧ 0 = 0) ∧ (rsR (onZ g len px py) (lfZ g len px py) i).2 = false ∧ (True ∧ nsegs len true g = nsegs len true g) ∧ (↑(nsegs len
 true g) : Int) = (↑(nsegs len true g) : Int) ∧ 0 = (↑i : Int) ∧ True) ∧ True ∧ (28 = 28 ∧ 0 = 0 ∧ px = px ∧ py = py ∧ True) ∧ True ∧ (29 = 29 ∧ 4 = 4 ∧ 4 * nsegs len true g ≤ 4 * nsegs len true g ∧ ∀ (i : Nat), i < 4 * nsegs len true g → segI g len i = segI g len i) ∧ True) ∧ ∀ (i : Nat), i ≤
 nsegs len true g ∧ (rsR (onZ g len px py) (lfZ g len px py) i).1 = false → (decide ((↑i : Int) < (↑(nsegs len true g) : Int)) = true → ((0 ≤ (↑i
: Int) ∧ (↑i : Int) < (↑(nsegs len true g) : Int)) ∧ 1 ≤ 4 * nsegs len true g) ∧ 0 + Int.toNat (↑i : Int) * 4 + 4 ≤ 4 * nsegs len true g ∧ (((0 :
 Int) ≤ (0 : Int) ∧ (0 : Int) < 2) ∧ True) ∧ (((0 : Int) ≤ 1 ∧ (1 : Int) < 2) ∧ True) ∧ small6 (segI g len (0 + Int.toNat (↑i : Int) * 4)) (segI g len (0 + Int.toNat (↑i : Int) * 4 + 1)) (segI g len (0 + Int.toNat (↑i : Int) * 4 + 1 + 1)) (segI g len (0 + Int.toNat (↑i : Int) * 4 + 1 + 1 + 1)) px py ∧ (decide (Go.Geo.On (segI g len (0 + Int.toNat (↑i : Int) * 4)) (segI g len (0 + Int.toNat (↑i : Int) * 4 + 1)) (segI g len (0 + Int.toNat (↑i : Int) * 4 + 1 + 1)) (segI g len (0 + Int.toNat (↑i : Int) * 4 + 1 + 1 + 1)) px py) = true → (0 : Int) = rgS g len px py ∧ True)
∧ (decide (Go.Geo.On (segI g len (0 + Int.toNat (↑i : Int) * 4)) (segI g len (0 + Int.toNat (↑i : Int) * 4 + 1)) (segI g len (0 + Int.toNat (↑i :
 Int) * 4 + 1 + 1)) (segI g len (0 + Int.toNat (↑i : Int) * 4 + 1 + 1 + 1)) px py) = false → (((0 : Int) ≤ 0 ∧ (0 : Int) < 2) ∧ True) ∧ (((0 : Int) ≤ (1
: Int) ∧ (1 : Int) < 2) ∧ True) ∧ small6 (segI g len (0 + Int.toNat (↑i : Int) * 4)) (segI g len (0 + Int.toNat (↑i : Int) * 4 + 1))
(segI g len (0 + Int.toNat (↑i : Int) * 4 + 1 + 1)) (segI g len (0 + Int.toNat (↑i : Int) * 4 + 1 + 1 + 1)) px py ∧ ∃ (i' : Nat), (i' ≤
 nsegs len true g ∧ (rsR (onZ g len px py) (lfZ g len px py) i').1 = false) ∧ nsegs len true g - i' < nsegs len true g - i ∧ ((True ∧ 0 = 0) ∧ (!(rsR (onZ g len px py) (lfZ g len px py) i).2 == decide (Go.Geo.Lft (segI g len (0 + Int.toNat (↑i : Int) * 4))
(segI g len (0 + Int.toNat (↑i : Int) * 4 + 1)) (segI g len (0 + Int.toNat (↑i : Int) * 4 + 1 + 1)) (segI g len (0 + Int.toNat (↑i :
 Int) * 4 + 1 + 1 + 1)) px py)) = (rsR (onZ g len px py) (lfZ g len px py) i').2 ∧ (True ∧ nsegs len true g = nsegs len
 true g) ∧ (↑(nsegs len true g) : Int) = (↑(nsegs len true g) : Int) ∧ Go.IntKind.wrap .i64 ((↑i : Int) + 1) = (↑i' : Int) ∧ True) ∧ True ∧ (28 = 28 ∧ 0 = 0 ∧ px = px ∧ py =
 py ∧ True) ∧ True ∧ (29 = 29 ∧ 4 = 4 ∧ 4 * nsegs len true g ≤ 4 * nsegs len true g ∧ ∀ (i : Nat), i < 4 * nsegs len true g →
 segI g len i = segI g len i) ∧ True)) ∧ (decide ((↑i : Int) < (↑(nsegs len true g) : Int)) = false → ((rsR (onZ g len px py) (lfZ g
 len px py) i).2 = true → (1 : Int) = rgS g len px py ∧ True) ∧ ((rsR (onZ g len px py) (lfZ g len px py) i).2 = false → (-1 : Int) = rgS g len px py ∧
 True))) := by kernel_rfl
theorem ringSd : ConOk Tryz.prog 89 (conR ringSdC) := by
 refine con_of_vc gRS Tryz.func89 rfl (by kernel_rfl) fun args => ?_
 unfold ringSdC
 split
 · rename_i n len px py
   intro o0
   show RdM.All _ (match intsFrom .i64 o0.c with | some (m, g) => _ | none => _) _
   split
   · rename_i m0 g hm0
     intro ho
     replace ho : m0 = 2 * len ∧ len ≤ 1000000 ∧ (∀ j, j < 2 * len → small (g j)) ∧ small px ∧ small py := ho
     obtain ⟨hsz0, ho⟩ := ho
     subst hsz0
     refine ⟨?_, _, _, (vc_ringSd len px py g).mpr ?_⟩
     · refine okFlag_mk rfl ⟨?_, ⟨trivial, (contR_ints hm0).1, trivial⟩⟩
       simp [eqvRL, eqvR, kEq_self, sgSig, fsts, nth, sameN_self]
     · obtain ⟨hl, hg, hx, hy⟩ := ho
       have hE := nsegs_le len true g
       have hsm := fun (k i : Nat) (hi : i < nsegs len true g) (hk : k < 4) => eZ_small hg hi hk
       have hv : ∀ i, (∀ m, i ≤ m → rsR (onZ g len px py) (lfZ g len px py) m = rsR (onZ g len px py) (lfZ g len px py) i) → i ≤ nsegs len true g → rgS g len px py = rsV (rsR (onZ g len px py) (lfZ g len px py) i) := fun i h hi => by unfold rgS; rw [h _ hi]
       have hend : rgS g len px py = rsV (rsR (onZ g len px py) (lfZ g len px py) (nsegs len true g)) := rfl
       generalize nsegs len true g = E at *
       simp only [true_and, and_true, eq_self, Nat.le_refl, implies_true, Int.toNat_natCast]
       refine ⟨hl, ⟨0, ⟨by omega, rfl⟩, rfl, rfl⟩, fun i hi => ⟨fun h => ?_, fun h => ⟨fun q => ?_, fun q => ?_⟩⟩⟩
       · have h := of_decide_eq_true h
         have hiE : i < E := by omega
         have hw : IntKind.i64.wrap ((i : Int) + 1) = ((i + 1 : Nat) : Int) := by rw [wrap64 (by omega) (by omega)]; omega
         have e0 : segI g len (0 + i * 4) = eZ g len 0 i := by unfold eZ; congr 1; omega
         have e1 : segI g len (0 + i * 4 + 1) = eZ g len 1 i := by unfold eZ; congr 1; omega
         have e2 : segI g len (0 + i * 4 + 1 + 1) = eZ g len 2 i := by unfold eZ; congr 1; omega
         have e3 : segI g len (0 + i * 4 + 1 + 1 + 1) = eZ g len 3 i := by unfold eZ; congr 1; omega
         have s6 : small6 (eZ g len 0 i) (eZ g len 1 i) (eZ g len 2 i) (eZ g len 3 i) px py := ⟨⟨hsm 0 i hiE (by decide), hsm 1 i hiE (by decide)⟩, ⟨hsm 2 i hiE (by decide), hsm 3 i hiE (by decide)⟩, hx, hy⟩
         have f1 : decide (On (eZ g len 0 i) (eZ g len 1 i) (eZ g len 2 i) (eZ g len 3 i) px py) = onZ g len px py i := rfl
         have f2 : decide (Lft (eZ g len 0 i) (eZ g len 1 i) (eZ g len 2 i) (eZ g len 3 i) px py) = lfZ g len px py i := rfl
         have step : rsR (onZ g len px py) (lfZ g len px py) (i + 1) = if (rsR (onZ g len px py) (lfZ g len px py) i).1 = true then rsR (onZ g len px py) (lfZ g len px py) i else if onZ g len px py i = true then (true, (rsR (onZ g len px py) (lfZ g len px py) i).2) else (false, (rsR (onZ g len px py) (lfZ g len px py) i).2 != lfZ g len px py i) := rfl
         rw [if_neg (by simp [hi.2])] at step
         simp only [hw, e0, e1, e2, e3, f1, f2]
         refine ⟨⟨⟨by omega, by omega⟩, by omega⟩, by omega, ⟨by omega, by omega⟩, ⟨by omega, by omega⟩, s6, fun q => ?_, fun q => ⟨⟨by omega, by omega⟩, ⟨by omega, by omega⟩, s6, i + 1, ⟨by omega, ?_⟩, by omega, ?_, rfl⟩⟩
         · rw [if_pos q] at step
           rw [hv (i + 1) (rsR_stop (by rw [step])) (by omega), step]
           rfl
         · rw [if_neg (by simp [q])] at step
           rw [step]
         · rw [if_neg (by simp [q])] at step
           rw [step]
           rfl
       · have h := of_decide_eq_false h
         have : i = E := by omega
         subst this
         rw [hend]
         unfold rsV
         rw [if_neg (by simp [hi.2]), if_pos q]
       · have h := of_decide_eq_false h
         have : i = E := by omega
         subst this
         rw [hend]
         unfold rsV
         rw [if_neg (by simp [hi.2]), if_neg (by simp [q])]
   · trivial
 · trivial
theorem allB_all {p : Nat → Bool} : ∀ {m : Nat}, (∀ i, i < m → p i = true) → allB p m = true
 | 0, _ => rfl
 | m + 1, h => by
   show (allB p m && p m) = true
   rw [allB_all (fun i hi => h i (by omega)), h m (by omega)]; rfl
noncomputable def GAI : Ctx := ⟨⟨tys, []⟩, [(89, conR ringSdC)]⟩
theorem gAI : CtxOk Tryz.prog GAI := ⟨⟨tysOk, FlatsOk.nil⟩, GamOk.cons ringSd GamOk.nil, by kernel_rfl⟩
def aiIP (ga gb : Nat → Int) (la : Nat) (i : Nat) : Bool := decide (0 ≤ rgS ga la (gb (2 * i)) (gb (2 * i + 1)))
def aiI2 (la lb : Nat) (ga gb : Nat → Int) : Fam := ⟨Nat, fun i =>
 ⟨18, [(0, .slcc 0 la), (7, .slcc 1 lb), (8, .int .i64 lb), (9, .int .i64 i)], [(0, ⟨false, 28, .ints .i64 (2 * la) ga, 0⟩), (1, ⟨false, 28, .ints .i64 (2 * lb) gb, 0⟩)], 2⟩, fun i => i ≤ lb ∧ ∀ j, j < i → aiIP ga gb la j = true, fun i => lb - i⟩
noncomputable def allInC : List SV → RdM
 | [.slcc n la, .slcc m lb] => .read n fun o0 => (match intsFrom .i64 o0.c with
   | some (m0, ga) => .read m fun o1 => (match intsFrom .i64 o1.c with
   | some (m1, gb) => .ret ⟨[.slcc 0 la, .slcc 1 lb], [(0, ⟨false, 28, .ints .i64 m0 ga, 0⟩), (1, ⟨false, 28, .ints .i64 m1 gb, 0⟩)], .bool (allB (aiIP ga gb la) lb), [], [], some (m0 = 2 * la ∧ m1 = 2 * lb ∧ (la ≤ 1000000 ∧ lb ≤ 1000000) ∧ (∀ j, j < 2 * la → small (ga j)) ∧ (∀ j, j < 2 * lb → small (gb j)))⟩
   | none => .fail)
   | none => .fail)
 | _ => .fail
theorem vc_allIn (la lb : Nat)  (ga : Nat → Int) (gb : Nat → Int) : runA GAI 2 [(2, aiI2 la lb ga gb)] [] (codeOf Tryz.f55) (init Tryz.f55.ntmps [.slcc 0 la, .slcc 1 lb] [(0, ⟨false, 28, .ints .i64 (2 * la) ga, 0⟩), (1, ⟨false, 28, .ints .i64 (2 * lb) gb, 0⟩)] 2) (endK GAI.E.T Tryz.f55.results.toList fun S v => postP 2 ⟨[.slcc 0 la, .slcc 1 lb], [(0, ⟨false, 28, .ints .i64 (2 * la) ga, 0⟩), (1, ⟨false, 28, .ints .i64 (2 * lb) gb, 0⟩)], .bool (allB (aiIP ga gb la) lb), [], [], some (2 * la = 2 * la ∧ 2 * lb = 2 * lb ∧ (la ≤ 1000000 ∧ lb ≤ 1000000) ∧ (∀ j, j < 2 * la → small (ga j)) ∧ (∀ j, j < 2 * lb → small (gb j)))⟩ S v) = (
(∃ (i : Nat), (i ≤ lb ∧ ∀ (j : Nat), j < i → aiIP ga gb la j = true) ∧ ((True ∧ la = la) ∧ (True ∧ lb = lb) ∧ (↑lb : Int) = (↑lb : Int) ∧ 0 = (↑i : Int) ∧ True) ∧ True ∧ (2 * la ≤ 2 * la ∧ ∀ (i : Nat), i < 2 * la → ga i = ga i) ∧ True ∧ (2 * lb ≤ 2 * lb ∧ ∀ (i : Nat), i < 2 * lb → gb i = gb i) ∧ True) ∧ ∀ (i : Nat), (i ≤ lb ∧ ∀ (j : Nat), j < i → aiIP ga gb la j = true) → (decide ((↑i : Int) < (↑lb : Int))
= true → ((0 ≤ (↑i : Int) ∧ (↑i : Int) < (↑lb : Int)) ∧ 1 ≤ 2 * lb) ∧ 0 + Int.toNat (↑i : Int) * 2 + 2 ≤ 2 * lb ∧ (2 * la = 2 * la ∧ la ≤ 1000000 ∧ (∀ (j : Nat), j < 2 * la → small (ga j)) ∧ small (gb (0 + Int.toNat (↑i : Int) * 2)) ∧ small (gb (0 + Int.toNat (↑i : Int) * 2 + 1))) ∧ (decide (rgS ga
 la (gb (0 + Int.toNat (↑i : Int) * 2)) (gb (0 + Int.toNat (↑i : Int) * 2 + 1)) < (0 : Int)) = true → allB (aiIP ga gb la) lb = false ∧ True) ∧ (decide (rgS
 ga la (gb (0 + Int.toNat (↑i : Int) * 2)) (gb (0 + Int.toNat (↑i : Int) * 2 + 1)) < (0 : Int)) = false → ∃ (i' : Nat), (i' ≤ lb ∧ ∀ (j : Nat), j < i' → aiIP ga gb la j = true) ∧ lb - i' < lb -
 i ∧ ((True ∧ la = la) ∧ (True ∧ lb = lb) ∧ (↑lb : Int) = (↑lb : Int) ∧ Go.IntKind.wrap .i64 ((↑i : Int) + 1) = (↑i' : Int) ∧ True) ∧ True ∧ (2 * la ≤ 2 * la ∧ ∀ (i : Nat), i < 2 * la → ga i = ga i) ∧ True ∧ (2
* lb ≤ 2 * lb ∧ ∀ (i : Nat), i < 2 * lb → gb i = gb i) ∧ True)) ∧ (decide ((↑i : Int) < (↑lb : Int)) = false → allB (aiIP ga gb la) lb = true ∧ True)) := by kernel_rfl
theorem allIn : ConOk Tryz.prog 55 (conR allInC) := by
 refine con_of_vc gAI Tryz.func55 rfl (by kernel_rfl) fun args => ?_
 unfold allInC
 split
 · rename_i n la m lb
   intro o0
   show RdM.All _ (match intsFrom .i64 o0.c with | some (m, g) => _ | none => _) _
   split
   · rename_i m0 ga hm0
     intro o1
     show RdM.All _ (match intsFrom .i64 o1.c with | some (m, g) => _ | none => _) _
     split
     · rename_i m1 gb hm1
       intro ho
       replace ho : m0 = 2 * la ∧ m1 = 2 * lb ∧ (la ≤ 1000000 ∧ lb ≤ 1000000) ∧ (∀ j, j < 2 * la → small (ga j)) ∧ (∀ j, j < 2 * lb → small (gb j)) := ho
       obtain ⟨hsz0, hsz1, ho⟩ := ho
       subst hsz0
       subst hsz1
       refine ⟨?_, _, _, (vc_allIn la lb ga gb).mpr ?_⟩
       · refine okFlag_mk rfl ⟨?_, ⟨trivial, (contR_ints hm0).1, ⟨trivial, (contR_ints hm1).1, trivial⟩⟩⟩
         simp [eqvRL, eqvR, sgSig, fsts, nth, sameN_self]
       · obtain ⟨⟨hla, hlb⟩, hga, hgb⟩ := ho
         simp only [true_and, and_true, eq_self, Nat.le_refl, implies_true, Int.toNat_natCast]
         refine ⟨⟨0, ⟨by omega, fun j hj => by omega⟩, rfl⟩, fun i hi => ⟨fun h => ?_, fun h => ?_⟩⟩
         · have h := of_decide_eq_true h
           have hw : IntKind.i64.wrap ((i : Int) + 1) = ((i + 1 : Nat) : Int) := by rw [wrap64 (by omega) (by omega)]; omega
           have e0 : gb (0 + i * 2) = gb (2 * i) := by congr 1; omega
           have e1 : gb (0 + i * 2 + 1) = gb (2 * i + 1) := by congr 1; omega
           simp only [hw, e0, e1]
           refine ⟨⟨⟨by omega, by omega⟩, by omega⟩, by omega, ⟨hla, hga, hgb _ (by omega), hgb _ (by omega)⟩, fun q => ?_, fun q => ⟨i + 1, ⟨by omega, ?_⟩, by omega, rfl⟩⟩
           · have q := of_decide_eq_true q
             have q' : ¬ 0 ≤ rgS ga la (gb (2 * i)) (gb (2 * i + 1)) := by omega
             exact allB_no (show i < lb by omega) (decide_eq_false q')
           · have q := of_decide_eq_false q
             intro j hj
             by_cases e : j = i
             · subst e; exact decide_eq_true (show 0 ≤ rgS ga la (gb (2 * j)) (gb (2 * j + 1)) by omega)
             · exact hi.2 j (by omega)
         · have h := of_decide_eq_false h
           have : i = lb := by omega
           subst this
           exact allB_all hi.2
     · trivial
   · trivial
 · trivial
def nxE (E i : Nat) : Nat := if i + 1 = E then 0 else i + 1
def sdE (g : Nat → Int) (len i : Nat) (x y : Int) : Int := cross (eZ g len 0 i) (eZ g len 1 i) (eZ g len 2 i) (eZ g len 3 i) x y
def tn1 (g : Nat → Int) (len E i : Nat) : Bool := !((eZ g len 0 i == eZ g len 2 i && eZ g len 1 i == eZ g len 3 i) || decide (sdE g len i (eZ g len 2 (nxE E i)) (eZ g len 3 (nxE E i)) < 0))
def tn2 (g : Nat → Int) (len i j : Nat) : Bool := decide (0 ≤ sdE g len i (g (2 * j)) (g (2 * j + 1)))
def okE (g : Nat → Int) (len E i : Nat) : Bool := tn1 g len E i && allB (tn2 g len i) len
def arI (g : Nat → Int) (len : Nat) : Nat → Int
 | 0 => 0
 | i + 1 => IntKind.i64.wrap (arI g len i + cross (g 0) (g 1) (eZ g len 0 i) (eZ g len 1 i) (eZ g len 2 i) (eZ g len 3 i))
def upE (g : Nat → Int) (len i : Nat) : Bool := upZ (eZ g len 0 i) (eZ g len 1 i) (eZ g len 2 i) (eZ g len 3 i)
def rdI (g : Nat → Int) (len E : Nat) : Nat → Int
 | 0 => 0
 | i + 1 => if (!upE g len i && upE g len (nxE E i)) = true then IntKind.i64.wrap (rdI g len E i + 1) else rdI g len E i
def isCvE (g : Nat → Int) (len E : Nat) : Bool := decide (3 ≤ E) && (allB (okE g len E) E && (decide (0 < arI g len E) && (rdI g len E E == 1)))
def isCv (g : Nat → Int) (len : Nat) : Bool := isCvE g len (nsegs len true g)
noncomputable def GCV : Ctx := ⟨⟨tys, FL⟩, [(86, conR polyEdC), (87, pureCon sideF), (88, pureCon polyUpF)]⟩
theorem gCV : CtxOk Tryz.prog GCV := ⟨⟨tysOk, flOk⟩, GamOk.cons polyEd (GamOk.cons (.pure side) (GamOk.cons (.pure polyUp) GamOk.nil)), by kernel_rfl⟩
def bxE (g : Nat → Int) (len i : Nat) : Ob := ⟨true, 29, .cells [.int .i64 (eZ g len 0 i), .int .i64 (eZ g len 1 i), .int .i64 (eZ g len 2 i), .int .i64 (eZ g len 3 i)], 0⟩
def cv2 (len : Nat) (g : Nat → Int) (i : Nat) : Fam := ⟨Nat, fun j =>
 ⟨87, [(0, .slcc 0 len), (3, .slcc 1 (nsegs len true g)), (4, .int .i64 (arI g len i)), (5, .int .i64 (rdI g len (nsegs len true g) i)), (7, .ptr 2 0), (8, .ptr 3 0), (16, .slcc 1 (nsegs len true g)), (17, .int .i64 (nsegs len true g)), (18, .int .i64 i), (46, .slcc 0 len), (47, .int .i64 len), (48, .int .i64 j)],
   [(0, ⟨false, 28, .ints .i64 (2 * len) g, 0⟩), (1, ⟨true, 29, .ints .i64 (4 * nsegs len true g) (segI g len), 4⟩), (2, bxE g len i), (3, bxE g len (nxE (nsegs len true g) i))], 4⟩,
 fun j => (i < nsegs len true g ∧ ∀ m, m < i → okE g len (nsegs len true g) m = true) ∧ tn1 g len (nsegs len true g) i = true ∧ j ≤ len ∧ ∀ m, m < j → tn2 g len i m = true, fun j => len - j⟩
def cv1 (len : Nat) (g : Nat → Int) : Fam := ⟨Nat, fun i =>
 ⟨87, [(0, .slcc 0 len), (3, .slcc 1 (nsegs len true g)), (4, .int .i64 (arI g len i)), (5, .int .i64 (rdI g len (nsegs len true g) i)), (16, .slcc 1 (nsegs len true g)), (17, .int .i64 (nsegs len true g)), (18, .int .i64 i)],
   [(0, ⟨false, 28, .ints .i64 (2 * len) g, 0⟩), (1, ⟨true, 29, .ints .i64 (4 * nsegs len true g) (segI g len), 4⟩)], 2⟩, fun i => i ≤ nsegs len true g ∧ ∀ j, j < i → okE g len (nsegs len true g) j = true, fun i => nsegs len true g - i⟩
def cv1L (len : Nat) (g : Nat → Int) : LFam := ⟨cv1 len g, fun i => [(12, cv2 len g i)]⟩
noncomputable def isConvexC : List SV → RdM
 | [.slcc n len] => .read n fun o0 => (match intsFrom .i64 o0.c with
   | some (m0, g) => .ret ⟨[.slcc 0 len], [(0, ⟨false, 28, .ints .i64 m0 g, 0⟩)], .bool (isCv g len), [], [], some (m0 = 2 * len ∧ len ≤ 1000000 ∧ (∀ j, j < 2 * len → small (g j)))⟩
   | none => .fail)
 | _ => .fail
theorem vc_isConvex (len : Nat)  (g : Nat → Int) : runA GCV 1 [(6, cv1L len g)] [] (codeOf Tryz.f53) (init Tryz.f53.ntmps [.slcc 0 len] [(0, ⟨false, 28, .ints .i64 (2 * len) g, 0⟩)] 1) (endK GCV.E.T Tryz.f53.results.toList fun S v => postP 1 ⟨[.slcc 0 len], [(0, ⟨false, 28, .ints .i64 (2 * len) g, 0⟩)], .bool (isCv g len), [], [], some (2 * len = 2 * len ∧ len ≤ 1000000 ∧ (∀ j, j < 2 * len → small (g j)))⟩ S v) = (
(2 * len = 2 * len ∧ len ≤ 1000000) ∧ (decide ((↑(nsegs len true g) : Int) < 3) = true → isCv g len = false ∧ True) ∧ (decide ((↑(nsegs len true g) : Int) < (3 :
 Int)) = false → (∃ (i : Nat), (i ≤ nsegs len true g ∧ ∀ (j : Nat), j < i → okE g len (nsegs len true g) j = true) ∧ ((True ∧ len = len) ∧ (True ∧ nsegs len true g =
 nsegs len true g) ∧ (0 : Int) = arI g len i ∧ (0 : Int) = rdI g len (nsegs len true g) i ∧ (True ∧ nsegs len true g = nsegs len true g) ∧
(↑(nsegs len true g) : Int) = (↑(nsegs len true g) : Int) ∧ 0 = (↑i : Int) ∧ True) ∧ True ∧ (2 * len ≤ 2 * len ∧ ∀ (i : Nat), i < 2 * len → g i = g i) ∧ True ∧ (29 = 29 ∧ 4 = 4 ∧ 4 * nsegs len true g ≤ 4 * nsegs len true g ∧ ∀ (i : Nat), i < 4 * nsegs len true g → segI g len i = segI
 g len i) ∧ True) ∧ ∀ (i : Nat), (i ≤ nsegs len true g ∧ ∀ (j : Nat), j < i → okE g len (nsegs len true g) j = true) → (decide ((↑i : Int) < (↑(nsegs len true g) : Int)) = true →
((0 ≤ (↑i : Int) ∧ (↑i : Int) < (↑(nsegs len true g) : Int)) ∧ 1 ≤ 4 * nsegs len true g) ∧ 0 + Int.toNat (↑i : Int) * 4 + 4 ≤ 4 * nsegs len
 true g ∧ (↑(nsegs len true g) : Int) ≠ 0 ∧ (((0 : Int) ≤ Int.tmod (Go.IntKind.wrap .i64 ((↑i : Int) + 1)) (↑(nsegs len true g) : Int) ∧ Int.tmod (Go.IntKind.wrap .i64 ((↑i : Int) + 1))
(↑(nsegs len true g) : Int) < (↑(nsegs len true g) : Int)) ∧ 1 ≤ 4 * nsegs len true g) ∧ 0 + Int.toNat (Int.tmod (Go.IntKind.wrap .i64 ((↑i : Int) + 1))
(↑(nsegs len true g) : Int)) * 4 + 4 ≤ 4 * nsegs len true g ∧ (((0 : Int) ≤ 0 ∧ (0 : Int) < 2) ∧ True) ∧ (((0 : Int) ≤ 1 ∧ (1 : Int) < 2) ∧ True) ∧
((segI g len (0 + Int.toNat (↑i : Int) * 4) == segI g len (0 + Int.toNat (↑i : Int) * 4 + 1 + 1) && (segI g len (0 + Int.toNat (↑i : Int) *
4 + 1) == segI g len (0 + Int.toNat (↑i : Int) * 4 + 1 + 1 + 1) && true)) = true → isCv g len = false ∧ True) ∧ ((segI g len (0 +
 Int.toNat (↑i : Int) * 4) == segI g len (0 + Int.toNat (↑i : Int) * 4 + 1 + 1) && (segI g len (0 + Int.toNat (↑i : Int) * 4 + 1) ==
 segI g len (0 + Int.toNat (↑i : Int) * 4 + 1 + 1 + 1) && true)) = false → (((0 : Int) ≤ 0 ∧ (0 : Int) < 2) ∧ True) ∧ (((0 : Int) ≤ 1 ∧ (1 : Int) < 2) ∧ True) ∧
(((0 : Int) ≤ 1 ∧ (1 : Int) < 2) ∧ True) ∧ small6 (segI g len (0 + Int.toNat (↑i : Int) * 4)) (segI g len (0 + Int.toNat (↑i : Int) * 4 + 1)) (segI g len (0 + Int.toNat (↑i : Int) * 4 + 1 + 1)) (segI g len (0 + Int.toNat (↑i : Int) * 4 + 1 + 1 + 1)) (segI g
 len (0 + Int.toNat (Int.tmod (Go.IntKind.wrap .i64 ((↑i : Int) + 1)) (↑(nsegs len true g) : Int)) * 4 + 1 + 1)) (segI g len (0 + Int.toNat (Int.tmod (Go.IntKind.wrap
.i64 ((↑i : Int) + 1)) (↑(nsegs len true g) : Int)) * 4 + 1 + 1 + 1)) ∧ (decide (Go.Geo.cross (segI g len (0 + Int.toNat (↑i : Int) * 4))
(segI g len (0 + Int.toNat (↑i : Int) * 4 + 1)) (segI g len (0 + Int.toNat (↑i : Int) * 4 + 1 + 1)) (segI g len (0 + Int.toNat (↑i :
 Int) * 4 + 1 + 1 + 1)) (segI g len (0 + Int.toNat (Int.tmod (Go.IntKind.wrap .i64 ((↑i : Int) + 1)) (↑(nsegs len true g) : Int)) * 4 + 1 + 1))
(segI g len (0 + Int.toNat (Int.tmod (Go.IntKind.wrap .i64 ((↑i : Int) + 1)) (↑(nsegs len true g) : Int)) * 4 + 1 + 1 + 1)) < (0 : Int)) = true →
 isCv g len = false ∧ True) ∧ (decide (Go.Geo.cross (segI g len (0 + Int.toNat (↑i : Int) * 4)) (segI g len (0 + Int.toNat (↑i : Int) * 4 + 1))
(segI g len (0 + Int.toNat (↑i : Int) * 4 + 1 + 1)) (segI g len (0 + Int.toNat (↑i : Int) * 4 + 1 + 1 + 1)) (segI g len (0 + Int.toNat (Int.tmod (Go.IntKind.wrap .i64 ((↑i : Int) + 1)) (↑(nsegs len true g) : Int)) * 4 + 1 + 1)) (segI g len (0 + Int.toNat (Int.tmod (Go.IntKind.wrap .i64
((↑i : Int) + 1)) (↑(nsegs len true g) : Int)) * 4 + 1 + 1 + 1)) < (0 : Int)) = false → (∃ (j : Nat), ((i < nsegs len true g ∧ ∀ (m : Nat), m < i → okE g
 len (nsegs len true g) m = true) ∧ tn1 g len (nsegs len true g) i = true ∧ j ≤ len ∧ ∀ (m : Nat), m < j → tn2 g len i m = true) ∧ ((True ∧ len = len) ∧ (True ∧
 nsegs len true g = nsegs len true g) ∧ arI g len i = arI g len i ∧ rdI g len (nsegs len true g) i = rdI g len
(nsegs len true g) i ∧ (True ∧ 0 = 0) ∧ (True ∧ 0 = 0) ∧ (True ∧ nsegs len true g = nsegs len true g) ∧ (↑(nsegs len true g) : Int) =
(↑(nsegs len true g) : Int) ∧ (↑i : Int) = (↑i : Int) ∧ (True ∧ len = len) ∧ (↑len : Int) = (↑len : Int) ∧ 0 = (↑j : Int) ∧ True) ∧ True ∧ (2 * len ≤ 2 * len ∧ ∀ (i : Nat), i < 2 * len → g i = g i) ∧
 True ∧ (29 = 29 ∧ 4 = 4 ∧ 4 * nsegs len true g ≤ 4 * nsegs len true g ∧ ∀ (i : Nat), i < 4 * nsegs len true g → segI g len
 i = segI g len i) ∧ True ∧ (29 = 29 ∧ 0 = 0 ∧ segI g len (0 + Int.toNat (↑i : Int) * 4) = eZ g len 0 i ∧ segI g len (0 + Int.toNat (↑i : Int) * 4 + 1) = eZ g len 1 i ∧ segI g len (0 + Int.toNat (↑i : Int) * 4 + 1 + 1) = eZ g len 2 i ∧
 segI g len (0 + Int.toNat (↑i : Int) * 4 + 1 + 1 + 1) = eZ g len 3 i ∧ True) ∧ True ∧ (29 = 29 ∧ 0 = 0 ∧ segI g len
(0 + Int.toNat (Int.tmod (Go.IntKind.wrap .i64 ((↑i : Int) + 1)) (↑(nsegs len true g) : Int)) * 4) = eZ g len 0 (nxE (nsegs len true g) i) ∧
 segI g len (0 + Int.toNat (Int.tmod (Go.IntKind.wrap .i64 ((↑i : Int) + 1)) (↑(nsegs len true g) : Int)) * 4 + 1) = eZ g len 1 (nxE
(nsegs len true g) i) ∧ segI g len (0 + Int.toNat (Int.tmod (Go.IntKind.wrap .i64 ((↑i : Int) + 1)) (↑(nsegs len true g) : Int)) * 4 + 1 + 1) =
 eZ g len 2 (nxE (nsegs len true g) i) ∧ segI g len (0 + Int.toNat (Int.tmod (Go.IntKind.wrap .i64 ((↑i : Int) + 1)) (↑(nsegs len true g)
: Int)) * 4 + 1 + 1 + 1) = eZ g len 3 (nxE (nsegs len true g) i) ∧ True) ∧ True) ∧ ∀ (j : Nat), ((i < nsegs len true g ∧ ∀ (m : Nat), m <
 i → okE g len (nsegs len true g) m = true) ∧ tn1 g len (nsegs len true g) i = true ∧ j ≤ len ∧ ∀ (m : Nat), m < j → tn2 g len i m = true) → (∃ (i_1 : Nat), ((i
< nsegs len true g ∧ ∀ (m : Nat), m < i → okE g len (nsegs len true g) m = true) ∧ tn1 g len (nsegs len true g) i = true ∧ i_1 ≤ len ∧ ∀ (m : Nat), m < i_1 →
 tn2 g len i m = true) ∧ ((True ∧ len = len) ∧ (True ∧ nsegs len true g = nsegs len true g) ∧ arI g len i = arI g len i ∧ rdI g len
(nsegs len true g) i = rdI g len (nsegs len true g) i ∧ (True ∧ 0 = 0) ∧ (True ∧ 0 = 0) ∧ (True ∧ nsegs len true g = nsegs len
 true g) ∧ (↑(nsegs len true g) : Int) = (↑(nsegs len true g) : Int) ∧ (↑i : Int) = (↑i : Int) ∧ (True ∧ len = len) ∧ (↑len : Int) = (↑len : Int) ∧ (↑j : Int) = (↑i_1 : Int) ∧ True) ∧ True ∧ (2 * len ≤ 2 * len ∧ ∀ (i : Nat), i < 2 * len → g i = g i) ∧ True ∧ (29 = 29 ∧ 4 = 4 ∧ 4 * nsegs len true g ≤ 4 * nsegs len true g ∧ ∀ (i : Nat), i < 4 *
 nsegs len true g → segI g len i = segI g len i) ∧ True ∧ (29 = 29 ∧ 0 = 0 ∧ eZ g len 0 i = eZ g len 0 i ∧
 eZ g len 1 i = eZ g len 1 i ∧ eZ g len 2 i = eZ g len 2 i ∧ eZ g len 3 i = eZ g len 3 i ∧
 True) ∧ True ∧ (29 = 29 ∧ 0 = 0 ∧ eZ g len 0 (nxE (nsegs len true g) i) = eZ g len 0 (nxE
(nsegs len true g) i) ∧ eZ g len 1 (nxE (nsegs len true g) i) = eZ g len 1 (nxE (nsegs len true g) i) ∧
 eZ g len 2 (nxE (nsegs len true g) i) = eZ g len 2 (nxE (nsegs len true g) i) ∧ eZ g len 3
(nxE (nsegs len true g) i) = eZ g len 3 (nxE (nsegs len true g) i) ∧ True) ∧ True) ∧ ∀ (i_1 : Nat), ((i < nsegs len true g ∧ ∀ (m :
 Nat), m < i → okE g len (nsegs len true g) m = true) ∧ tn1 g len (nsegs len true g) i = true ∧ i_1 ≤ len ∧ ∀ (m : Nat), m < i_1 → tn2 g len i m = true) →
(decide ((↑i_1 : Int) < (↑len : Int)) = true → ((0 ≤ (↑i_1 : Int) ∧ (↑i_1 : Int) < (↑len : Int)) ∧ 1 ≤ 2 * len) ∧ 0 + Int.toNat (↑i_1 : Int) * 2 + 2 ≤ 2 * len ∧ (((0 : Int) ≤ 0 ∧ (0 :
 Int) < (2 : Int)) ∧ True) ∧ (((0 : Int) ≤ 1 ∧ (1 : Int) < 2) ∧ True) ∧ small6 (eZ g len 0 i) (eZ g len 1 i) (eZ g len 2 i)
(eZ g len 3 i) (g (0 + Int.toNat (↑i_1 : Int) * 2)) (g (0 + Int.toNat (↑i_1 : Int) * 2 + 1)) ∧ (decide (Go.Geo.cross (eZ g len 0 i) (eZ g
 len 1 i) (eZ g len 2 i) (eZ g len 3 i) (g (0 + Int.toNat (↑i_1 : Int) * 2)) (g (0 + Int.toNat (↑i_1 : Int) * 2 + 1)) < (0 : Int)) = true →
 isCv g len = false ∧ True) ∧ (decide (Go.Geo.cross (eZ g len 0 i) (eZ g len 1 i) (eZ g len 2 i) (eZ g len 3 i) (g (0 +
 Int.toNat (↑i_1 : Int) * 2)) (g (0 + Int.toNat (↑i_1 : Int) * 2 + 1)) < (0 : Int)) = false → ∃ (i' : Nat), ((i < nsegs len true g ∧ ∀ (m : Nat), m < i → okE g len
(nsegs len true g) m = true) ∧ tn1 g len (nsegs len true g) i = true ∧ i' ≤ len ∧ ∀ (m : Nat), m < i' → tn2 g len i m = true) ∧ len - i' < len - i_1 ∧ ((True ∧ len = len) ∧ (True
∧ nsegs len true g = nsegs len true g) ∧ arI g len i = arI g len i ∧ rdI g len (nsegs len true g) i = rdI g len
(nsegs len true g) i ∧ (True ∧ 0 = 0) ∧ (True ∧ 0 = 0) ∧ (True ∧ nsegs len true g = nsegs len true g) ∧ (↑(nsegs len true g) : Int) =
(↑(nsegs len true g) : Int) ∧ (↑i : Int) = (↑i : Int) ∧ (True ∧ len = len) ∧ (↑len : Int) = (↑len : Int) ∧ Go.IntKind.wrap .i64 ((↑i_1 : Int) + 1) = (↑i' : Int) ∧ True) ∧ True ∧ (2 * len ≤ 2 * len ∧ ∀ (i :
 Nat), i < 2 * len → g i = g i) ∧ True ∧ (29 = 29 ∧ 4 = 4 ∧ 4 * nsegs len true g ≤ 4 * nsegs len true g ∧ ∀ (i : Nat), i < 4 * nsegs
 len true g → segI g len i = segI g len i) ∧ True ∧ (29 = 29 ∧ 0 = 0 ∧ eZ g len 0 i = eZ g len 0 i ∧ eZ g len 1 i = eZ g len 1 i ∧ eZ g len 2 i = eZ g len 2 i ∧ eZ g len 3 i = eZ g len 3 i ∧ True) ∧ True ∧ (29 = 29 ∧ 0 = 0 ∧ eZ g len 0 (nxE (nsegs len true g) i) = eZ g len 0 (nxE (nsegs len true g) i) ∧
 eZ g len 1 (nxE (nsegs len true g) i) = eZ g len 1 (nxE (nsegs len true g) i) ∧ eZ g len 2
(nxE (nsegs len true g) i) = eZ g len 2 (nxE (nsegs len true g) i) ∧ eZ g len 3 (nxE
(nsegs len true g) i) = eZ g len 3 (nxE (nsegs len true g) i) ∧ True) ∧ True)) ∧ (decide ((↑i_1 : Int) < (↑len : Int)) = false → (((0 : Int) ≤ 0 ∧ (0 : Int) <
(↑(nsegs len true g) : Int)) ∧ 1 ≤ 4 * nsegs len true g) ∧ (((0 : Int) ≤ 0 ∧ (0 : Int) < 2) ∧ 1 ≤ 4 * nsegs len true g) ∧ 2 ≤ 4 *
 nsegs len true g ∧ (((0 : Int) ≤ 0 ∧ (0 : Int) < 2) ∧ True) ∧ (((0 : Int) ≤ 1 ∧ (1 : Int) < 2) ∧ True) ∧ small6 (segI g len 0) (segI g len
1) (eZ g len 0 i) (eZ g len 1 i) (eZ g len 2 i) (eZ g len 3 i) ∧ true = true ∧ ((!upZ (eZ g len 0 i) (eZ g len 1 i) (eZ g len 2 i) (eZ g len 3 i)) = true → (upZ (eZ g len 0 (nxE (nsegs
 len true g) i)) (eZ g len 1 (nxE (nsegs len true g) i)) (eZ g len 2 (nxE (nsegs len true g) i)) (eZ g len 3 (nxE (nsegs len true g) i)) = true → ∃ (i' : Nat), (i' ≤ nsegs len true g ∧ ∀ (j : Nat), j < i' → okE g len (nsegs len true g) j = true) ∧
 nsegs len true g - i' < nsegs len true g - i ∧ ((True ∧ len = len) ∧ (True ∧ nsegs len true g = nsegs len true g) ∧ Go.IntKind.wrap .i64 (arI g len i +
 Go.Geo.cross (segI g len 0) (segI g len 1) (eZ g len 0 i) (eZ g len 1 i) (eZ g len 2 i) (eZ g len 3 i)) = arI g len i' ∧ Go.IntKind.wrap .i64 (rdI g len (nsegs len true g) i + (1 : Int)) = rdI g len (nsegs len true g) i' ∧ (True ∧ nsegs
 len true g = nsegs len true g) ∧ (↑(nsegs len true g) : Int) = (↑(nsegs len true g) : Int) ∧ Go.IntKind.wrap .i64 ((↑i : Int) + 1) = (↑i' : Int) ∧ True) ∧ True ∧ (2 * len ≤ 2 * len ∧ ∀ (i : Nat), i < 2 * len → g i = g i) ∧ True ∧ (29 = 29 ∧ 4 = 4 ∧ 4 * nsegs len true g ≤ 4 * nsegs len true g ∧ ∀ (i : Nat), i < 4 *
 nsegs len true g → segI g len i = segI g len i) ∧ True) ∧ (upZ (eZ g len 0 (nxE (nsegs len true g) i))
(eZ g len 1 (nxE (nsegs len true g) i)) (eZ g len 2 (nxE (nsegs len true g) i)) (eZ g len 3
(nxE (nsegs len true g) i)) = false → ∃ (i' : Nat), (i' ≤ nsegs len true g ∧ ∀ (j : Nat), j < i' → okE g len (nsegs len true g) j = true) ∧
 nsegs len true g - i' < nsegs len true g - i ∧ ((True ∧ len = len) ∧ (True ∧ nsegs len true g = nsegs len true g) ∧ Go.IntKind.wrap .i64 (arI g len i +
 Go.Geo.cross (segI g len 0) (segI g len 1) (eZ g len 0 i) (eZ g len 1 i) (eZ g len 2 i) (eZ g len 3 i)) = arI g len i' ∧ rdI g len (nsegs len true g) i = rdI g len (nsegs len true g) i' ∧ (True ∧ nsegs len true g =
 nsegs len true g) ∧ (↑(nsegs len true g) : Int) = (↑(nsegs len true g) : Int) ∧ Go.IntKind.wrap .i64 ((↑i : Int) + 1) = (↑i' : Int) ∧ True) ∧ True ∧ (2 * len ≤ 2 * len ∧ ∀
(i : Nat), i < 2 * len → g i = g i) ∧ True ∧ (29 = 29 ∧ 4 = 4 ∧ 4 * nsegs len true g ≤ 4 * nsegs len true g ∧ ∀ (i : Nat), i < 4 *
 nsegs len true g → segI g len i = segI g len i) ∧ True)) ∧ ((!upZ (eZ g len 0 i) (eZ g len 1 i) (eZ g len 2 i) (eZ g len 3 i)) = false → ∃ (i' : Nat), (i' ≤ nsegs len true g ∧ ∀ (j : Nat), j < i' → okE g len (nsegs len true g) j = true) ∧ nsegs len true
 g - i' < nsegs len true g - i ∧ ((True ∧ len = len) ∧ (True ∧ nsegs len true g = nsegs len true g) ∧ Go.IntKind.wrap .i64 (arI g len i + Go.Geo.cross (segI g
 len 0) (segI g len 1) (eZ g len 0 i) (eZ g len 1 i) (eZ g len 2 i) (eZ g len 3 i)) = arI g len
 i' ∧ rdI g len (nsegs len true g) i = rdI g len (nsegs len true g) i' ∧ (True ∧ nsegs len true g = nsegs len true g) ∧
(↑(nsegs len true g) : Int) = (↑(nsegs len true g) : Int) ∧ Go.IntKind.wrap .i64 ((↑i : Int) + 1) = (↑i' : Int) ∧ True) ∧ True ∧ (2 * len ≤ 2 * len ∧ ∀ (i : Nat), i < 2 * len → g i =
 g i) ∧ True ∧ (29 = 29 ∧ 4 = 4 ∧ 4 * nsegs len true g ≤ 4 * nsegs len true g ∧ ∀ (i : Nat), i < 4 * nsegs len true g →
 segI g len i = segI g len i) ∧ True))))) ∧ (decide ((↑i : Int) < (↑(nsegs len true g) : Int)) = false → (decide ((0 : Int) < arI g len i) = true → (rdI g len
(nsegs len true g) i == (1 : Int)) = isCv g len ∧ True) ∧ (decide ((0 : Int) < arI g len i) = false → isCv g len = false ∧ True)))) := by kernel_rfl
theorem isConvex : ConOk Tryz.prog 53 (conR isConvexC) := by
 refine con_of_vc gCV Tryz.func53 rfl (by kernel_rfl) fun args => ?_
 unfold isConvexC
 split
 · rename_i n len
   intro o0
   show RdM.All _ (match intsFrom .i64 o0.c with | some (m, g) => _ | none => _) _
   split
   · rename_i m0 g hm0
     intro ho
     replace ho : m0 = 2 * len ∧ len ≤ 1000000 ∧ (∀ j, j < 2 * len → small (g j)) := ho
     obtain ⟨hsz0, ho⟩ := ho
     subst hsz0
     refine ⟨?_, _, _, (vc_isConvex len g).mpr ?_⟩
     · refine okFlag_mk rfl ⟨?_, ⟨trivial, (contR_ints hm0).1, trivial⟩⟩
       simp [eqvRL, eqvR, sgSig, fsts, nth, sameN_self]
     · obtain ⟨hl, hg⟩ := ho
       have hE := nsegs_le len true g
       have hsm := fun (k i : Nat) (hi : i < nsegs len true g) (hk : k < 4) => eZ_small hg hi hk
       have hcv : isCv g len = isCvE g len (nsegs len true g) := rfl
       rw [hcv]
       have hse : (0 < nsegs len true g → segI g len 0 = g 0 ∧ segI g len 1 = g 1) := fun h => by
         have hl2 : 2 ≤ len := by
           rcases Nat.lt_or_ge len 2 with h' | h'
           · have : nsegs len true g = 0 := if_pos (.inl h')
             omega
           · exact h'
         constructor <;> · unfold segI; rw [if_pos (by omega)]
       have hs0 : 0 < nsegs len true g → small (g 0) ∧ small (g 1) := fun h => ⟨hg 0 (by omega), hg 1 (by omega)⟩
       generalize nsegs len true g = E at *
       have e0 : ∀ i : Nat, segI g len (0 + i * 4) = eZ g len 0 i := fun i => by unfold eZ; congr 1; omega
       have e1 : ∀ i : Nat, segI g len (0 + i * 4 + 1) = eZ g len 1 i := fun i => by unfold eZ; congr 1; omega
       have e2 : ∀ i : Nat, segI g len (0 + i * 4 + 1 + 1) = eZ g len 2 i := fun i => by unfold eZ; congr 1; omega
       have e3 : ∀ i : Nat, segI g len (0 + i * 4 + 1 + 1 + 1) = eZ g len 3 i := fun i => by unfold eZ; congr 1; omega
       have no : ∀ i, i < E → okE g len E i = false → isCvE g len E = false := fun i hi h => by
         unfold isCvE
         rw [allB_no hi h]
         simp
       refine ⟨⟨rfl, hl⟩, fun h => ?_, fun h => ?_⟩
       · have h := of_decide_eq_true h
         unfold isCvE
         rw [decide_eq_false (by omega)]
         exact ⟨rfl, trivial⟩
       have h3 := of_decide_eq_false h
       have hE0 : 0 < E := by omega
       simp only [true_and, and_true, eq_self, Nat.le_refl, implies_true, Int.toNat_natCast, e0, e1, e2, e3]
       refine ⟨⟨0, ⟨by omega, fun j hj => by omega⟩, rfl, rfl, rfl⟩, fun i hi => ⟨fun h => ?_, fun h => ?_⟩⟩
       · have hiE : i < E := by have := of_decide_eq_true h; omega
         have hw : IntKind.i64.wrap ((i : Int) + 1) = ((i + 1 : Nat) : Int) := by rw [wrap64 (by omega) (by omega)]; omega
         have hm : Int.tmod (IntKind.i64.wrap ((i : Int) + 1)) (E : Int) = ((nxE E i : Nat) : Int) := by
           rw [hw]
           unfold nxE
           split
           · rename_i hh
             rw [hh]
             simp
           · rw [Int.tmod_eq_of_lt (by omega) (by omega)]
         have hnx : nxE E i < E := by unfold nxE; split <;> omega
         simp only [hm, Int.toNat_natCast]
         have hp : ∀ j : Nat, g (0 + j * 2) = g (2 * j) ∧ g (0 + j * 2 + 1) = g (2 * j + 1) := fun j => ⟨by congr 1; omega, by congr 1; omega⟩
         simp only [(hp _).1, (hp _).2]
         have s6 : ∀ x y, small x → small y → small6 (eZ g len 0 i) (eZ g len 1 i) (eZ g len 2 i) (eZ g len 3 i) x y := fun x y hx hy => ⟨⟨hsm 0 i hiE (by decide), hsm 1 i hiE (by decide)⟩, ⟨hsm 2 i hiE (by decide), hsm 3 i hiE (by decide)⟩, hx, hy⟩
         have s6' : small6 (segI g len 0) (segI g len 1) (eZ g len 0 i) (eZ g len 1 i) (eZ g len 2 i) (eZ g len 3 i) := by
           rw [(hse hE0).1, (hse hE0).2]
           exact ⟨⟨(hs0 hE0).1, (hs0 hE0).2⟩, ⟨hsm 0 i hiE (by decide), hsm 1 i hiE (by decide)⟩, hsm 2 i hiE (by decide), hsm 3 i hiE (by decide)⟩
         have z2 : ((0 : Int) ≤ 0 ∧ (0 : Int) < 2) := by omega
         have z1 : ((0 : Int) ≤ 1 ∧ (1 : Int) < 2) := by omega
         refine ⟨⟨⟨by omega, by omega⟩, by omega⟩, by omega, by omega, ⟨⟨by omega, by omega⟩, by omega⟩, by omega, z2, z1, fun q => ?_, fun q1 => ⟨z2, z1, z1, s6 _ _ (hsm 2 _ hnx (by decide)) (hsm 3 _ hnx (by decide)), fun q => ?_, fun q2 => ?_⟩⟩
         · rw [Bool.and_true] at q
           exact no i hiE (by unfold okE tn1; rw [q]; rfl)
         · exact no i hiE (by unfold okE tn1 sdE; rw [q]; simp)
         rw [Bool.and_true] at q1
         have t1 : tn1 g len E i = true := by unfold tn1 sdE; rw [q1, q2]; rfl
         refine ⟨⟨0, ⟨⟨hiE, hi.2⟩, t1, by omega, fun m hm => by omega⟩, rfl, trivial, trivial, trivial, trivial⟩, fun j0 hj0 => ⟨⟨j0, hj0, rfl⟩, fun j hj => ⟨fun hd => ?_, fun hd => ?_⟩⟩⟩
         · have hd := of_decide_eq_true hd
           have hjl : j < len := by omega
           have hw' : IntKind.i64.wrap ((j : Int) + 1) = ((j + 1 : Nat) : Int) := by rw [wrap64 (by omega) (by omega)]; omega
           refine ⟨⟨⟨by omega, by omega⟩, by omega⟩, by omega, z2, z1, s6 _ _ (hg _ (by omega)) (hg _ (by omega)), fun q => ?_, fun q => ⟨j + 1, ⟨⟨hiE, hi.2⟩, t1, by omega, fun m hm => ?_⟩, by omega, hw'⟩⟩
           · have q := of_decide_eq_true q
             exact no i hiE (by unfold okE; rw [allB_no hjl (decide_eq_false (show ¬ 0 ≤ sdE g len i (g (2 * j)) (g (2 * j + 1)) by unfold sdE; omega))]; simp)
           · have q := of_decide_eq_false q
             by_cases e : m = j
             · subst e
               exact decide_eq_true (show 0 ≤ sdE g len i (g (2 * m)) (g (2 * m + 1)) by unfold sdE; omega)
             · exact hj.2.2.2 m (by omega)
         · have hd := of_decide_eq_false hd
           have hjl : j = len := by omega
           subst hjl
           have ok : ∀ m, m < i + 1 → okE g j E m = true := fun m hm => by
             by_cases e : m = i
             · subst e
               unfold okE
               rw [t1, allB_all hj.2.2.2]
               rfl
             · exact hi.2 m (by omega)
           have ha : IntKind.i64.wrap (arI g j i + cross (segI g j 0) (segI g j 1) (eZ g j 0 i) (eZ g j 1 i) (eZ g j 2 i) (eZ g j 3 i)) = arI g j (i + 1) := by
             rw [(hse hE0).1, (hse hE0).2]
             rfl
           have hr : rdI g j E (i + 1) = if (!upE g j i && upE g j (nxE E i)) = true then IntKind.i64.wrap (rdI g j E i + 1) else rdI g j E i := rfl
           refine ⟨⟨⟨by omega, by omega⟩, by omega⟩, ⟨z2, by omega⟩, by omega, z2, z1, s6', fun q => ⟨fun q' => ⟨i + 1, ⟨by omega, ok⟩, by omega, ha, ?_, hw⟩, fun q' => ⟨i + 1, ⟨by omega, ok⟩, by omega, ha, ?_, hw⟩⟩, fun q => ⟨i + 1, ⟨by omega, ok⟩, by omega, ha, ?_, hw⟩⟩
           · rw [hr, if_pos]
             unfold upE
             rw [q, q']
             rfl
           · rw [hr, if_neg]
             unfold upE
             rw [q']
             simp
           · rw [hr, if_neg]
             unfold upE
             rw [q]
             simp
       · have h := of_decide_eq_false h
         have hiE : i = E := by omega
         subst hiE
         have hcE : isCvE g len i = (decide (0 < arI g len i) && (rdI g len i i == 1)) := by
           unfold isCvE
           rw [allB_all hi.2, decide_eq_true (show 3 ≤ i by omega)]
           rfl
         rw [hcE]
         exact ⟨fun q => by rw [q]; rfl, fun q => by rw [q]; rfl⟩
   · trivial
 · trivial
end Go.Proofs.Tryz.Sx
