/- Parts of a proof, in order: what each says stands at its head. No conditions. -/
import Derived.Test.YtfhkmkhcofodmaaGreatM7
namespace Go.Proofs.Tryz.Sx
open Go Go.Sx Go.Proofs Go.Fl Go.Geo
set_option maxRecDepth 100000
noncomputable def rilS (g : Nat → Nat) (n ns : Nat) (cl : Bool) (x y z w : Nat) (g2 : Nat → Nat) (n2 ns2 : Nat) (cl2 : Bool) (x2 y2 z2 w2 : Nat) (al : Bool) : Bool :=
 !(emp cl n) && (!(emp cl2 n2) && (mt4 x y z w x2 y2 z2 w2 && (anyB (sPs g n ns x y z w g2 al) n2 || anyB (sIs g n ns x y z w g2 n2 al) ns2)))
def rl7 (H : Heap) (al : Bool) (t : Int) (k : Nat) (P : Nat → Prop) : Fam := ⟨Nat, fun i => ⟨62, [(0, .ifc 157 (.ptr 0 0)), (1, .ptr 2 0), (2, .bool al), (7, .int .i64 t), (8, .int .i64 i)], H, 4⟩, fun i => i ≤ k ∧ P i, fun i => k - i⟩
def rl13 (H : Heap) (al : Bool) (t : Int) (k : Nat) (P : Nat → Prop) : Fam := ⟨Nat, fun i => ⟨62, [(0, .ifc 157 (.ptr 0 0)), (1, .ptr 2 0), (2, .bool al), (9, .int .i64 t), (10, .int .i64 i)], H, 4⟩, fun i => i ≤ k ∧ P i, fun i => k - i⟩
def HL2 (cl cw cv : Bool) (k : Int) (x y z w n : Nat) (g : Nat → Nat) : Heap := [(2, ⟨false, 152, serC cl cw cv k x y z w 3 n, 0⟩), (3, ⟨false, 100, .flts .f64 (2 * n) g, 0⟩)]
noncomputable def GilS : Ctx := ⟨⟨tys, []⟩, [(163, conR sEmptyC), (164, conR sRectSC), (175, pureCon rMeetF), (205, conR sNumPC), (206, conR sPtC), (174, conR rcpSC), (111, conR sNumSC), (112, conR sSegC), (207, conR risSC)]⟩
theorem gilS : CtxOk Tryz.prog GilS := ⟨⟨tysOk, FlatsOk.nil⟩, GamOk.cons sEmpty (GamOk.cons sRectS (GamOk.cons (.pure rMeet) (GamOk.cons sNumP (GamOk.cons sPt (GamOk.cons rcpS (GamOk.cons sNumS (GamOk.cons sSeg (GamOk.cons risS GamOk.nil)))))))), by kernel_rfl⟩
noncomputable def rilSLC : List SV → RdM
 | [.ifc 157 (.ptr s 0), .ptr l 0, v] => .read s fun o0 => (match serOf o0.c with
   | some (cl, cw, cv, k, x, y, z, w, p, n) => .read p fun o1 => (match fltsFrom .f64 o1.c with
   | some (m1, g) => .read l fun o2 => (match serOf o2.c with
   | some (cl2, cw2, cv2, k2, x2, y2, z2, w2, q2, n2) => .read q2 fun o3 => (match fltsFrom .f64 o3.c with
   | some (m3, g2) => (match v.toB with
   | some al => .ret ⟨[.ifc 157 (.ptr 0 0), .ptr 2 0, .bool al], [(0, ⟨false, 150, serC cl cw cv k x y z w 1 n, 0⟩), (1, ⟨false, 100, .flts .f64 m1 g, 0⟩), (2, ⟨false, 152, serC cl2 cw2 cv2 k2 x2 y2 z2 w2 3 n2, 0⟩), (3, ⟨false, 100, .flts .f64 m3 g2, 0⟩)], .bool (rilS g n (nsg cl n (wz g)) cl x y z w g2 n2 (nsg cl2 n2 (wz g2)) cl2 x2 y2 z2 w2 al), [], [], some (m1 = 2 * n ∧ m3 = 2 * n2 ∧ (n ≤ 1000000 ∧ SmF g (2 * n)) ∧ (n2 ≤ 1000000 ∧ SmF g2 (2 * n2)))⟩
   | none => .fail)
   | none => .fail)
   | none => .fail)
   | none => .fail)
   | none => .fail)
 | _ => .fail
theorem vc_rilSL (cl cw cv : Bool) (k : Int) (x y z w : Nat) (_ : Nm) (n : Nat) (cl2 cw2 cv2 : Bool) (k2 : Int) (x2 y2 z2 w2 : Nat) (_ : Nm) (n2 : Nat) (al : Bool)  (g : Nat → Nat) (g2 : Nat → Nat) : runA GilS 4 [(7, rl7 (HS1 cl cw cv k x y z w n g ++ HL2 cl2 cw2 cv2 k2 x2 y2 z2 w2 n2 g2) al n2 n2 (fun i => (emp cl n = false ∧ emp cl2 n2 = false ∧ mt4 x y z w x2 y2 z2 w2 = true) ∧ noneB (sPs g n (nsg cl n (wz g)) x y z w g2 al) i)), (13, rl13 (HS1 cl cw cv k x y z w n g ++ HL2 cl2 cw2 cv2 k2 x2 y2 z2 w2 n2 g2) al (nsg cl2 n2 (wz g2)) (nsg cl2 n2 (wz g2)) (fun i => ((emp cl n = false ∧ emp cl2 n2 = false ∧ mt4 x y z w x2 y2 z2 w2 = true) ∧ noneB (sPs g n (nsg cl n (wz g)) x y z w g2 al) n2) ∧ noneB (sIs g n (nsg cl n (wz g)) x y z w g2 n2 al) i))] [] (codeOf Tryz.f201) (init Tryz.f201.ntmps [.ifc 157 (.ptr 0 0), .ptr 2 0, .bool al] [(0, ⟨false, 150, serC cl cw cv k x y z w 1 n, 0⟩), (1, ⟨false, 100, .flts .f64 (2 * n) g, 0⟩), (2, ⟨false, 152, serC cl2 cw2 cv2 k2 x2 y2 z2 w2 3 n2, 0⟩), (3, ⟨false, 100, .flts .f64 (2 * n2) g2, 0⟩)] 4) (endK GilS.E.T Tryz.f201.results.toList fun S v => postP 4 ⟨[.ifc 157 (.ptr 0 0), .ptr 2 0, .bool al], [(0, ⟨false, 150, serC cl cw cv k x y z w 1 n, 0⟩), (1, ⟨false, 100, .flts .f64 (2 * n) g, 0⟩), (2, ⟨false, 152, serC cl2 cw2 cv2 k2 x2 y2 z2 w2 3 n2, 0⟩), (3, ⟨false, 100, .flts .f64 (2 * n2) g2, 0⟩)], .bool (rilS g n (nsg cl n (wz g)) cl x y z w g2 n2 (nsg cl2 n2 (wz g2)) cl2 x2 y2 z2 w2 al), [], [], some (2 * n = 2 * n ∧ 2 * n2 = 2 * n2 ∧ (n ≤ 1000000 ∧ SmF g (2 * n)) ∧ (n2 ≤ 1000000 ∧ SmF g2 (2 * n2)))⟩ S v) = (
(2 * n = 2 * n ∧ True) ∧ (decide (n < 2 ∨ cl = true ∧ n < 3) = true → rilS g n (nsg cl n (wz g)) cl x y z w g2 n2 (nsg cl2 n2
(wz g2)) cl2 x2 y2 z2 w2 al = false ∧ True) ∧ (decide (n < 2 ∨ cl = true ∧ n < 3) = false → (2 * n2 = 2 * n2 ∧ True) ∧ (decide (n2 < 2 ∨ cl2 = true ∧ n2 < 3) = true →
 rilS g n (nsg cl n (wz g)) cl x y z w g2 n2 (nsg cl2 n2 (wz g2)) cl2 x2 y2 z2 w2 al = false ∧ True) ∧ (decide (n2 < 2 ∨ cl2 = true ∧ n2 < 3) =
 false → (2 * n = 2 * n ∧ True) ∧ (2 * n2 = 2 * n2 ∧ True) ∧ true = true ∧ ((!(!fGt .f64 y w2 && !fLt .f64 w y2 && !fGt .f64 x z2 && !fLt .f64 z x2)) = true → rilS g n
(nsg cl n (wz g)) cl x y z w g2 n2 (nsg cl2 n2 (wz g2)) cl2 x2 y2 z2 w2 al = false ∧ True) ∧ ((!(!fGt .f64 y w2 && !fLt .f64 w y2 && !fGt .f64 x z2 &&
!fLt .f64 z x2)) = false → (2 * n2 = 2 * n2 ∧ True) ∧ (∃ (i : Nat), (i ≤ n2 ∧ (emp cl n = false ∧ emp cl2 n2 = false ∧ mt4 x y z w x2 y2 z2 w2 = true) ∧
 noneB (sPs g n (nsg cl n (wz g)) x y z w g2 al) i) ∧ ((True ∧ 0 = 0) ∧ (True ∧ 0 = 0) ∧ al = al ∧ (↑n2 : Int) = (↑n2 : Int) ∧ 0 = (↑i :
 Int) ∧ True) ∧ True ∧ (cl = cl ∧ cw = cw ∧ cv = cv ∧ k = k ∧ True ∧ x = x ∧ y = y ∧ z = z ∧ w = w ∧ (True ∧ n = n) ∧ True) ∧ True ∧ (2 * n ≤ 2 * n ∧ ∀ (i : Nat), i < 2 * n → g i = g i) ∧ True ∧ (cl2 = cl2 ∧ cw2 = cw2 ∧ cv2 =
 cv2 ∧ k2 = k2 ∧ True ∧ x2 = x2 ∧ y2 = y2 ∧ z2 = z2 ∧ w2 = w2 ∧ (True ∧ n2 = n2) ∧ True) ∧ True ∧ (2 * n2 ≤ 2 * n2 ∧ ∀ (i : Nat), i < 2 * n2 → g2 i = g2 i) ∧ True) ∧ ∀ (i : Nat), i ≤ n2 ∧ (emp cl n = false ∧
 emp cl2 n2 = false ∧ mt4 x y z w x2 y2 z2 w2 = true) ∧ noneB (sPs g n (nsg cl n (wz g)) x y z w g2 al) i → (decide ((↑i : Int) < (↑n2 : Int))
= true → (2 * n2 = 2 * n2 ∧ 0 ≤ (↑i : Int) ∧ (↑i : Int) < (↑n2 : Int)) ∧ (2 * n = 2 * n ∧ n ≤ 1000000 ∧ SmF g (2 * n) ∧ W1 (g2 (2 * Int.toNat (↑i :
 Int))) ∧ W1 (g2 (2 * Int.toNat (↑i : Int) + 1))) ∧ ((rcp g n (nsg cl n (wz g)) x y z w (g2 (2 * Int.toNat (↑i : Int))) (g2 (2 * Int.toNat
(↑i : Int) + 1)) al).1 = true → rilS g n (nsg cl n (wz g)) cl x y z w g2 n2 (nsg cl2 n2 (wz g2)) cl2 x2 y2 z2 w2 al = true ∧ True) ∧ (Prod.fst
(rcp g n (nsg cl n (wz g)) x y z w (g2 (2 * Int.toNat (↑i : Int))) (g2 (2 * Int.toNat (↑i : Int) + 1)) al) = false → ∃ (i' : Nat), (i' ≤ n2 ∧ (emp cl n =
 false ∧ emp cl2 n2 = false ∧ mt4 x y z w x2 y2 z2 w2 = true) ∧ noneB (sPs g n (nsg cl n (wz g)) x y z w g2 al) i') ∧ n2 - i' < n2 - i ∧ ((True
∧ 0 = 0) ∧ (True ∧ 0 = 0) ∧ al = al ∧ (↑n2 : Int) = (↑n2 : Int) ∧ Go.IntKind.wrap .i64 ((↑i : Int) + 1) = (↑i' : Int) ∧ True) ∧ True ∧ (cl = cl ∧ cw = cw ∧ cv = cv ∧ k = k ∧ True ∧ x = x ∧ y = y ∧ z = z ∧ w = w
∧ (True ∧ n = n) ∧ True) ∧ True ∧ (2 * n ≤ 2 * n ∧ ∀ (i : Nat), i < 2 * n → g i = g i) ∧ True ∧ (cl2 = cl2 ∧ cw2 = cw2 ∧ cv2 = cv2 ∧ k2 = k2 ∧ True ∧ x2 = x2 ∧ y2 = y2 ∧ z2 = z2 ∧ w2 = w2 ∧ (True ∧ n2 = n2) ∧ True) ∧ True ∧
(2 * n2 ≤ 2 * n2 ∧ ∀ (i : Nat), i < 2 * n2 → g2 i = g2 i) ∧ True)) ∧ (decide ((↑i : Int) < (↑n2 : Int)) = false → (2 * n2 = 2 * n2 ∧ n2 ≤ 1000000 ∧ SmF g2 (2 * n2)) ∧ (∃ (i :
 Nat), (i ≤ nsg cl2 n2 (wz g2) ∧ ((emp cl n = false ∧ emp cl2 n2 = false ∧ mt4 x y z w x2 y2 z2 w2 = true) ∧ noneB (sPs g n
(nsg cl n (wz g)) x y z w g2 al) n2) ∧ noneB (sIs g n (nsg cl n (wz g)) x y z w g2 n2 al) i) ∧ ((True ∧ 0 = 0) ∧ (True ∧ 0 = 0) ∧ al = al ∧ (↑(nsg cl2 n2 (wz g2)) : Int) = (↑(nsg cl2 n2 (wz g2)) : Int) ∧ 0 = (↑i : Int) ∧ True) ∧ True ∧ (cl = cl ∧ cw = cw ∧ cv = cv ∧ k = k ∧ True
∧ x = x ∧ y = y ∧ z = z ∧ w = w ∧ (True ∧ n = n) ∧ True) ∧ True ∧ (2 * n ≤ 2 * n ∧ ∀ (i : Nat), i < 2 * n → g i = g i) ∧ True ∧ (cl2 = cl2 ∧ cw2 = cw2 ∧ cv2 = cv2 ∧ k2 = k2 ∧ True ∧ x2 = x2 ∧ y2 = y2 ∧ z2 = z2 ∧ w2 = w2 ∧
(True ∧ n2 = n2) ∧ True) ∧ True ∧ (2 * n2 ≤ 2 * n2 ∧ ∀ (i : Nat), i < 2 * n2 → g2 i = g2 i) ∧ True) ∧ ∀ (i : Nat), i ≤ nsg cl2 n2 (wz g2) ∧ ((emp cl n = false ∧
 emp cl2 n2 = false ∧ mt4 x y z w x2 y2 z2 w2 = true) ∧ noneB (sPs g n (nsg cl n (wz g)) x y z w g2 al) n2) ∧ noneB
(sIs g n (nsg cl n (wz g)) x y z w g2 n2 al) i → (decide ((↑i : Int) < (↑(nsg cl2 n2 (wz g2)) : Int)) = true → (2 * n2 = 2 * n2 ∧ (0 : Int) ≤
(↑i : Int) ∧ (↑i : Int) < (↑n2 : Int) ∧ n2 ≤ 1000000) ∧ (2 * n = 2 * n ∧ n ≤ 1000000 ∧ SmF g (2 * n) ∧ W1 (g2 (2 * Int.toNat (↑i : Int))) ∧ W1 (g2
(2 * Int.toNat (↑i : Int) + 1)) ∧ W1 (g2 (2 * nx n2 (Int.toNat (↑i : Int)))) ∧ W1 (g2 (2 * nx n2 (Int.toNat (↑i : Int)) + 1))) ∧
(ris g n (nsg cl n (wz g)) x y z w (g2 (2 * Int.toNat (↑i : Int))) (g2 (2 * Int.toNat (↑i : Int) + 1)) (g2 (2 * nx n2 (Int.toNat (↑i : Int)))) (g2
(2 * nx n2 (Int.toNat (↑i : Int)) + 1)) al = true → rilS g n (nsg cl n (wz g)) cl x y z w g2 n2 (nsg cl2 n2 (wz g2)) cl2 x2 y2
 z2 w2 al = true ∧ True) ∧ (ris g n (nsg cl n (wz g)) x y z w (g2 (2 * Int.toNat (↑i : Int))) (g2 (2 * Int.toNat (↑i : Int) + 1)) (g2 (2 * nx n2
(Int.toNat (↑i : Int)))) (g2 (2 * nx n2 (Int.toNat (↑i : Int)) + 1)) al = false → ∃ (i' : Nat), (i' ≤ nsg cl2 n2 (wz g2) ∧ ((emp cl n = false ∧
 emp cl2 n2 = false ∧ mt4 x y z w x2 y2 z2 w2 = true) ∧ noneB (sPs g n (nsg cl n (wz g)) x y z w g2 al) n2) ∧ noneB
(sIs g n (nsg cl n (wz g)) x y z w g2 n2 al) i') ∧ nsg cl2 n2 (wz g2) - i' < nsg cl2 n2 (wz g2) - i ∧ ((True ∧ 0 =
0) ∧ (True ∧ 0 = 0) ∧ al = al ∧ (↑(nsg cl2 n2 (wz g2)) : Int) = (↑(nsg cl2 n2 (wz g2)) : Int) ∧ Go.IntKind.wrap .i64 ((↑i : Int) + 1) = (↑i' :
 Int) ∧ True) ∧ True ∧ (cl = cl ∧ cw = cw ∧ cv = cv ∧ k = k ∧ True ∧ x = x ∧ y = y ∧ z = z ∧ w = w ∧ (True ∧ n = n) ∧ True) ∧ True ∧ (2 * n ≤ 2 * n ∧ ∀ (i : Nat), i < 2 * n → g i = g i) ∧ True ∧ (cl2 = cl2 ∧ cw2 = cw2 ∧ cv2 =
 cv2 ∧ k2 = k2 ∧ True ∧ x2 = x2 ∧ y2 = y2 ∧ z2 = z2 ∧ w2 = w2 ∧ (True ∧ n2 = n2) ∧ True) ∧ True ∧ (2 * n2 ≤ 2 * n2 ∧ ∀ (i : Nat), i < 2 * n2 → g2 i = g2 i) ∧ True)) ∧ (decide ((↑i : Int) < (↑(nsg cl2 n2
(wz g2)) : Int)) = false → rilS g n (nsg cl n (wz g)) cl x y z w g2 n2 (nsg cl2 n2 (wz g2)) cl2 x2 y2 z2 w2 al = false ∧ True)))))) := by kernel_rfl
theorem rilSL : ConOk Tryz.prog 201 (conR rilSLC) := by
 refine con_of_vc gilS Tryz.func201 rfl (by kernel_rfl) fun args => ?_
 unfold rilSLC
 split
 · rename_i s l v
   intro o0
   show RdM.All _ (match serOf o0.c with | some (cl, cw, cv, k, x, y, z, w, p, n) => _ | none => _) _
   split
   · rename_i cl cw cv k x y z w p n hm0
     intro o1
     show RdM.All _ (match fltsFrom .f64 o1.c with | some (m, g) => _ | none => _) _
     split
     · rename_i m1 g hm1
       intro o2
       show RdM.All _ (match serOf o2.c with | some (cl2, cw2, cv2, k2, x2, y2, z2, w2, q2, n2) => _ | none => _) _
       split
       · rename_i cl2 cw2 cv2 k2 x2 y2 z2 w2 q2 n2 hm2
         intro o3
         show RdM.All _ (match fltsFrom .f64 o3.c with | some (m, g) => _ | none => _) _
         split
         · rename_i m3 g2 hm3
           show RdM.All _ (match v.toB with | some b => _ | none => _) _
           split
           · rename_i al hal
             intro ho
             replace ho : m1 = 2 * n ∧ m3 = 2 * n2 ∧ (n ≤ 1000000 ∧ SmF g (2 * n)) ∧ (n2 ≤ 1000000 ∧ SmF g2 (2 * n2)) := ho
             obtain ⟨hsz1, hsz3, ho⟩ := ho
             subst hsz1
             subst hsz3
             refine ⟨?_, _, _, (vc_rilSL cl cw cv k x y z w p n cl2 cw2 cv2 k2 x2 y2 z2 w2 q2 n2 al g g2).mpr ?_⟩
             · refine okFlag_mk rfl ⟨?_, ⟨trivial, serOf_spec hm0 (by simp [sgSig, fsts, nth, sameN_self]), ⟨trivial, (contR_flts hm1).1, ⟨trivial, serOf_spec hm2 (by simp [sgSig, fsts, nth, sameN_self]), ⟨trivial, (contR_flts hm3).1, trivial⟩⟩⟩⟩⟩
               simp [eqvRL, eqvR, sgSig, fsts, nth, sameN_self, toB_eqvR hal]
             · obtain ⟨⟨hn, hg⟩, hn2, hg2⟩ := ho
               have eA : decide (n < 2 ∨ cl = true ∧ n < 3) = emp cl n := rfl
               have eB : decide (n2 < 2 ∨ cl2 = true ∧ n2 < 3) = emp cl2 n2 := rfl
               have em : (!fGt .f64 y w2 && !fLt .f64 w y2 && !fGt .f64 x z2 && !fLt .f64 z x2) = mt4 x y z w x2 y2 z2 w2 := rfl
               have hns2 := nsg_le cl2 n2 (wz g2)
               generalize nsg cl n (wz g) = N
               generalize nsg cl2 n2 (wz g2) = N2 at *
               simp only [true_and, and_true, eq_self, Nat.le_refl, implies_true, eA, eB, em, Int.toNat_natCast]
               refine ⟨fun q => by unfold rilS; rw [q]; rfl, fun q => ⟨fun q' => by unfold rilS; rw [q, q']; rfl, fun q' => ⟨fun m2 => ?_, fun m2 => ⟨⟨0, ⟨by omega, ⟨q, q', by simpa using m2⟩, fun j hj => by omega⟩, rfl⟩, fun i hi => ⟨fun h => ?_, fun h => ⟨⟨hn2, hg2⟩, ⟨0, ⟨by omega, ⟨hi.2.1, ?_⟩, fun j hj => by omega⟩, rfl⟩, fun i' hi' => ⟨fun h' => ?_, fun h' => ?_⟩⟩⟩⟩⟩⟩⟩
               · unfold rilS; rw [q, q', show mt4 x y z w x2 y2 z2 w2 = false by simpa using m2]; rfl
               · have h := of_decide_eq_true h
                 have hw : IntKind.i64.wrap ((i : Int) + 1) = ((i + 1 : Nat) : Int) := by rw [wrap64 (by omega) (by omega)]; omega
                 rw [hw]
                 refine ⟨⟨by omega, by omega⟩, ⟨hn, hg, hg2 _ (by omega), hg2 _ (by omega)⟩, fun q3 => ?_, fun q3 => ⟨i + 1, ⟨by omega, hi.2.1, ?_⟩, by omega, rfl⟩⟩
                 · unfold rilS
                   rw [q, q', hi.2.1.2.2, anyB_of (p := sPs g n N x y z w g2 al) (i := i) (by omega) q3]
                   rfl
                 · intro j hj
                   by_cases e : j = i
                   · subst e; exact q3
                   · exact hi.2.2 j (by omega)
               · have h := of_decide_eq_false h
                 have : i = n2 := by omega
                 subst this
                 exact hi.2.2
               · have h' := of_decide_eq_true h'
                 have hw : IntKind.i64.wrap ((i' : Int) + 1) = ((i' + 1 : Nat) : Int) := by rw [wrap64 (by omega) (by omega)]; omega
                 have n1 := nx_lt (show i' < n2 by omega)
                 rw [hw]
                 refine ⟨⟨by omega, by omega, hn2⟩, ⟨hn, hg, hg2 _ (by omega), hg2 _ (by omega), hg2 _ (by omega), hg2 _ (by omega)⟩, fun q3 => ?_, fun q3 => ⟨i' + 1, ⟨by omega, hi'.2.1, ?_⟩, by omega, rfl⟩⟩
                 · unfold rilS
                   rw [q, q', hi.2.1.2.2, anyB_of (p := sIs g n N x y z w g2 n2 al) (i := i') (by omega) q3]
                   simp
                 · intro j hj
                   by_cases e : j = i'
                   · subst e; exact q3
                   · exact hi'.2.2 j (by omega)
               · have h' := of_decide_eq_false h'
                 have : i' = N2 := by omega
                 subst this
                 unfold rilS
                 rw [q, q', hi.2.1.2.2, anyB_not hi'.2.1.2, anyB_not hi'.2.2]
                 rfl
           · trivial
         · trivial
       · trivial
     · trivial
   · trivial
 · trivial
noncomputable def GclS : Ctx := ⟨⟨tys, []⟩, [(213, conR rcrSSC)]⟩
theorem gclS : CtxOk Tryz.prog GclS := ⟨⟨tysOk, FlatsOk.nil⟩, GamOk.cons rcrSS GamOk.nil, by kernel_rfl⟩
noncomputable def rclSLC : List SV → RdM
 | [.ifc 157 (.ptr s 0), .ptr l 0, v] => .read s fun o0 => (match serOf o0.c with
   | some (cl, cw, cv, k, x, y, z, w, p, n) => .read p fun o1 => (match fltsFrom .f64 o1.c with
   | some (m1, g) => .read l fun o2 => (match serOf o2.c with
   | some (cl2, cw2, cv2, k2, x2, y2, z2, w2, q2, n2) => .read q2 fun o3 => (match fltsFrom .f64 o3.c with
   | some (m3, g2) => (match v.toB with
   | some al => .ret ⟨[.ifc 157 (.ptr 0 0), .ptr 2 0, .bool al], [(0, ⟨false, 150, serC cl cw cv k x y z w 1 n, 0⟩), (1, ⟨false, 100, .flts .f64 m1 g, 0⟩), (2, ⟨false, 152, serC cl2 cw2 cv2 k2 x2 y2 z2 w2 3 n2, 0⟩), (3, ⟨false, 100, .flts .f64 m3 g2, 0⟩)], .bool (rcrS g n (nsg cl n (wz g)) cl cw cv x y z w g2 n2 (nsg cl2 n2 (wz g2)) cl2 x2 y2 z2 w2 al), [], [], some (m1 = 2 * n ∧ m3 = 2 * n2 ∧ (n ≤ 1000000 ∧ SmF g (2 * n)) ∧ (n2 ≤ 1000000 ∧ SmF g2 (2 * n2)) ∧ W1 x2 ∧ W1 y2 ∧ W1 z2 ∧ W1 w2)⟩
   | none => .fail)
   | none => .fail)
   | none => .fail)
   | none => .fail)
   | none => .fail)
 | _ => .fail
theorem vc_rclSL (cl cw cv : Bool) (k : Int) (x y z w : Nat) (_ : Nm) (n : Nat) (cl2 cw2 cv2 : Bool) (k2 : Int) (x2 y2 z2 w2 : Nat) (_ : Nm) (n2 : Nat) (al : Bool)  (g : Nat → Nat) (g2 : Nat → Nat) : runA GclS 4 [] [] (codeOf Tryz.f235) (init Tryz.f235.ntmps [.ifc 157 (.ptr 0 0), .ptr 2 0, .bool al] [(0, ⟨false, 150, serC cl cw cv k x y z w 1 n, 0⟩), (1, ⟨false, 100, .flts .f64 (2 * n) g, 0⟩), (2, ⟨false, 152, serC cl2 cw2 cv2 k2 x2 y2 z2 w2 3 n2, 0⟩), (3, ⟨false, 100, .flts .f64 (2 * n2) g2, 0⟩)] 4) (endK GclS.E.T Tryz.f235.results.toList fun S v => postP 4 ⟨[.ifc 157 (.ptr 0 0), .ptr 2 0, .bool al], [(0, ⟨false, 150, serC cl cw cv k x y z w 1 n, 0⟩), (1, ⟨false, 100, .flts .f64 (2 * n) g, 0⟩), (2, ⟨false, 152, serC cl2 cw2 cv2 k2 x2 y2 z2 w2 3 n2, 0⟩), (3, ⟨false, 100, .flts .f64 (2 * n2) g2, 0⟩)], .bool (rcrS g n (nsg cl n (wz g)) cl cw cv x y z w g2 n2 (nsg cl2 n2 (wz g2)) cl2 x2 y2 z2 w2 al), [], [], some (2 * n = 2 * n ∧ 2 * n2 = 2 * n2 ∧ (n ≤ 1000000 ∧ SmF g (2 * n)) ∧ (n2 ≤ 1000000 ∧ SmF g2 (2 * n2)) ∧ W1 x2 ∧ W1 y2 ∧ W1 z2 ∧ W1 w2)⟩ S v) = (
(2 * n = 2 * n ∧ 2 * n2 = 2 * n2 ∧ (n ≤ 1000000 ∧ SmF g (2 * n)) ∧ (n2 ≤ 1000000 ∧ SmF g2 (2 * n2)) ∧ W1 x2 ∧ W1
 y2 ∧ W1 z2 ∧ W1 w2) ∧ rcrS g n (nsg cl n (wz g)) cl cw cv x y z w g2 n2 (nsg cl2 n2 (wz g2)) cl2 x2 y2 z2 w2 al =
 rcrS g n (nsg cl n (wz g)) cl cw cv x y z w g2 n2 (nsg cl2 n2 (wz g2)) cl2 x2 y2 z2 w2 al ∧ True) := by kernel_rfl
theorem rclSL : ConOk Tryz.prog 235 (conR rclSLC) := by
 refine con_of_vc gclS Tryz.func235 rfl (by kernel_rfl) fun args => ?_
 unfold rclSLC
 split
 · rename_i s l v
   intro o0
   show RdM.All _ (match serOf o0.c with | some (cl, cw, cv, k, x, y, z, w, p, n) => _ | none => _) _
   split
   · rename_i cl cw cv k x y z w p n hm0
     intro o1
     show RdM.All _ (match fltsFrom .f64 o1.c with | some (m, g) => _ | none => _) _
     split
     · rename_i m1 g hm1
       intro o2
       show RdM.All _ (match serOf o2.c with | some (cl2, cw2, cv2, k2, x2, y2, z2, w2, q2, n2) => _ | none => _) _
       split
       · rename_i cl2 cw2 cv2 k2 x2 y2 z2 w2 q2 n2 hm2
         intro o3
         show RdM.All _ (match fltsFrom .f64 o3.c with | some (m, g) => _ | none => _) _
         split
         · rename_i m3 g2 hm3
           show RdM.All _ (match v.toB with | some b => _ | none => _) _
           split
           · rename_i al hal
             intro ho
             replace ho : m1 = 2 * n ∧ m3 = 2 * n2 ∧ (n ≤ 1000000 ∧ SmF g (2 * n)) ∧ (n2 ≤ 1000000 ∧ SmF g2 (2 * n2)) ∧ W1 x2 ∧ W1 y2 ∧ W1 z2 ∧ W1 w2 := ho
             obtain ⟨hsz1, hsz3, ho⟩ := ho
             subst hsz1
             subst hsz3
             refine ⟨?_, _, _, (vc_rclSL cl cw cv k x y z w p n cl2 cw2 cv2 k2 x2 y2 z2 w2 q2 n2 al g g2).mpr ?_⟩
             · refine okFlag_mk rfl ⟨?_, ⟨trivial, serOf_spec hm0 (by simp [sgSig, fsts, nth, sameN_self]), ⟨trivial, (contR_flts hm1).1, ⟨trivial, serOf_spec hm2 (by simp [sgSig, fsts, nth, sameN_self]), ⟨trivial, (contR_flts hm3).1, trivial⟩⟩⟩⟩⟩
               simp [eqvRL, eqvR, sgSig, fsts, nth, sameN_self, toB_eqvR hal]
             · simp [ho]
           · trivial
         · trivial
       · trivial
     · trivial
   · trivial
 · trivial
noncomputable def newRingC : List SV → RdM
 | [.slcc n len, .ptr o 0] => .read n fun o0 => (match fltsFrom .f64 o0.c with
   | some (m0, g) => .read o fun o1 => (match optOf o1.c with
   | some (k, m) => .ret ⟨[.slcc 0 len, .ptr 1 0], [(0, ⟨false, 100, .flts .f64 m0 g, 0⟩), (1, ⟨false, 148, optC k m, 0⟩)], .ifc 157 (.ptr 2 0), [], [(2, ⟨true, 150, .cells (rectS len true g 3 0), 0⟩), (3, ⟨true, 100, .flts .f64 (2 * len) g, 2⟩)], some (m0 = 2 * len ∧ k = 0 ∧ len ≤ 1000000 ∧ (ppBig len true = true → ppOk g len))⟩
   | none => .fail)
   | none => .fail)
 | _ => .fail
theorem vc_newRing (len : Nat) (m : Int) (k : Int)  (g : Nat → Nat) : runA GNL 2 [] [] (codeOf Tryz.f101) (init Tryz.f101.ntmps [.slcc 0 len, .ptr 1 0] [(0, ⟨false, 100, .flts .f64 (2 * len) g, 0⟩), (1, ⟨false, 148, optC k m, 0⟩)] 2) (endK GNL.E.T Tryz.f101.results.toList fun S v => postP 2 ⟨[.slcc 0 len, .ptr 1 0], [(0, ⟨false, 100, .flts .f64 (2 * len) g, 0⟩), (1, ⟨false, 148, optC k m, 0⟩)], .ifc 157 (.ptr 2 0), [], [(2, ⟨true, 150, .cells (rectS len true g 3 0), 0⟩), (3, ⟨true, 100, .flts .f64 (2 * len) g, 2⟩)], some (2 * len = 2 * len ∧ k = 0 ∧ len ≤ 1000000 ∧ (ppBig len true = true → ppOk g len))⟩ S v) = (
(2 * len = 2 * len ∧ k = (0 : Int) ∧ len ≤ 1000000 ∧ (ppBig len true = true → ppOk g len)) ∧ (True ∧ 0 = 0) ∧ True ∧ (150 = 150 ∧ 0 = 0 ∧ true
= true ∧ (ppBig len true && fGt .f64 (cwF g len len) 0) = (ppBig len true && fGt .f64 (cwF g len len) 0) ∧ (ppBig len true &&
!(dcF g len len).2) = (ppBig len true && !(dcF g len len).2) ∧ (0 : Int) = 0 ∧ True ∧ pick (ppBig len true) (rlo g 0 len) = pick (ppBig len true) (rlo g 0 len) ∧ pick (ppBig len true) (rlo g 1 len) = pick
(ppBig len true) (rlo g 1 len) ∧ pick (ppBig len true) (rhi g 0 len) = pick (ppBig len true)
(rhi g 0 len) ∧ pick (ppBig len true) (rhi g 1 len) = pick (ppBig len true) (rhi g 1 len) ∧ (True ∧
 len = len) ∧ True) ∧ True ∧ (100 = 100 ∧ 2 = 2 ∧ 2 * len ≤ 2 * len ∧ ∀ (i : Nat), i < 2 * len → g i = g i) ∧ True) := by kernel_rfl
theorem newRing : ConOk Tryz.prog 101 (conR newRingC) := by
 refine con_of_vc gNL Tryz.func101 rfl (by kernel_rfl) fun args => ?_
 unfold newRingC
 split
 · rename_i n len o
   intro o0
   show RdM.All _ (match fltsFrom .f64 o0.c with | some (m, g) => _ | none => _) _
   split
   · rename_i m0 g hm0
     intro o1
     show RdM.All _ (match optOf o1.c with | some (k, m) => _ | none => _) _
     split
     · rename_i k m hm1
       intro ho
       replace ho : m0 = 2 * len ∧ k = 0 ∧ len ≤ 1000000 ∧ (ppBig len true = true → ppOk g len) := ho
       obtain ⟨hsz0, ho⟩ := ho
       subst hsz0
       refine ⟨?_, _, _, (vc_newRing len m k g).mpr ?_⟩
       · refine okFlag_mk rfl ⟨?_, ⟨trivial, (contR_flts hm0).1, ⟨trivial, optOf_spec hm1, trivial⟩⟩⟩
         simp [eqvRL, eqvR, sgSig, fsts, nth, sameN_self]
       · obtain ⟨hk, hl, hok⟩ := ho
         simp [hk, hl]
         exact hok
     · trivial
   · trivial
 · trivial
noncomputable def GNP : Ctx := ⟨⟨tys, []⟩, [(101, conR newRingC)]⟩
theorem gNP : CtxOk Tryz.prog GNP := ⟨⟨tysOk, FlatsOk.nil⟩, GamOk.cons newRing GamOk.nil, by kernel_rfl⟩
noncomputable def newPoly0C : List SV → RdM
 | [.slcc n len, .nils, .ptr o 0] => .read n fun o0 => (match fltsFrom .f64 o0.c with
   | some (m0, g) => .read o fun o1 => (match optOf o1.c with
   | some (k, m) => .ret ⟨[.slcc 0 len, .nils, .ptr 1 0], [(0, ⟨false, 100, .flts .f64 m0 g, 0⟩), (1, ⟨false, 148, optC k m, 0⟩)], .ptr 2 0, [], [(2, ⟨true, 137, .cells [.ifc 157 (.ptr 3 0), .nils], 0⟩), (3, ⟨true, 150, .cells (rectS len true g 4 0), 0⟩), (4, ⟨true, 100, .flts .f64 (2 * len) g, 2⟩)], some (m0 = 2 * len ∧ k = 0 ∧ len ≤ 1000000 ∧ (ppBig len true = true → ppOk g len))⟩
   | none => .fail)
   | none => .fail)
 | _ => .fail
theorem vc_newPoly0 (len : Nat) (m : Int) (k : Int)  (g : Nat → Nat) : runA GNP 2 [] [] (codeOf Tryz.f91) (init Tryz.f91.ntmps [.slcc 0 len, .nils, .ptr 1 0] [(0, ⟨false, 100, .flts .f64 (2 * len) g, 0⟩), (1, ⟨false, 148, optC k m, 0⟩)] 2) (endK GNP.E.T Tryz.f91.results.toList fun S v => postP 2 ⟨[.slcc 0 len, .nils, .ptr 1 0], [(0, ⟨false, 100, .flts .f64 (2 * len) g, 0⟩), (1, ⟨false, 148, optC k m, 0⟩)], .ptr 2 0, [], [(2, ⟨true, 137, .cells [.ifc 157 (.ptr 3 0), .nils], 0⟩), (3, ⟨true, 150, .cells (rectS len true g 4 0), 0⟩), (4, ⟨true, 100, .flts .f64 (2 * len) g, 2⟩)], some (2 * len = 2 * len ∧ k = 0 ∧ len ≤ 1000000 ∧ (ppBig len true = true → ppOk g len))⟩ S v) = (
(2 * len = 2 * len ∧ k = (0 : Int) ∧ len ≤ 1000000 ∧ (ppBig len true = true → ppOk g len)) ∧ (false = true → ((0 : Int) = 0 ∧ (0 : Int) ≤ 0 ∧ (0 : Int) ≤ (9223372036854775807
: Int) ∧ (0 : Int) ≤ 140737488355328) ∧ False) ∧ (false = false → (True ∧ 0 = 0) ∧ True ∧ (137 = 137 ∧ 0 = 0 ∧ (True ∧ 0 = 0) ∧ True ∧ True) ∧ True ∧ (150 = 150 ∧
0 = 0 ∧ true = true ∧ (ppBig len true && fGt .f64 (cwF g len len) 0) = (ppBig len true && fGt .f64 (cwF g len len) 0) ∧
(ppBig len true && !(dcF g len len).2) = (ppBig len true && !(dcF g len len).2) ∧ (0 : Int) = 0 ∧ True ∧ pick (ppBig len
 true) (rlo g 0 len) = pick (ppBig len true) (rlo g 0 len) ∧ pick (ppBig len true) (rlo g 1 len) =
 pick (ppBig len true) (rlo g 1 len) ∧ pick (ppBig len true) (rhi g 0 len) = pick (ppBig
 len true) (rhi g 0 len) ∧ pick (ppBig len true) (rhi g 1 len) = pick (ppBig len true) (rhi g 1 len)
∧ (True ∧ len = len) ∧ True) ∧ True ∧ (100 = 100 ∧ 2 = 2 ∧ 2 * len ≤ 2 * len ∧ ∀ (i : Nat), i < 2 * len → g i = g i) ∧ True)) := by kernel_rfl
theorem newPoly0 : ConOk Tryz.prog 91 (conR newPoly0C) := by
 refine con_of_vc gNP Tryz.func91 rfl (by kernel_rfl) fun args => ?_
 unfold newPoly0C
 split
 · rename_i n len o
   intro o0
   show RdM.All _ (match fltsFrom .f64 o0.c with | some (m, g) => _ | none => _) _
   split
   · rename_i m0 g hm0
     intro o1
     show RdM.All _ (match optOf o1.c with | some (k, m) => _ | none => _) _
     split
     · rename_i k m hm1
       intro ho
       replace ho : m0 = 2 * len ∧ k = 0 ∧ len ≤ 1000000 ∧ (ppBig len true = true → ppOk g len) := ho
       obtain ⟨hsz0, ho⟩ := ho
       subst hsz0
       refine ⟨?_, _, _, (vc_newPoly0 len m k g).mpr ?_⟩
       · refine okFlag_mk rfl ⟨?_, ⟨trivial, (contR_flts hm0).1, ⟨trivial, optOf_spec hm1, trivial⟩⟩⟩
         simp [eqvRL, eqvR, sgSig, fsts, nth, sameN_self]
       · obtain ⟨hk, hl, hok⟩ := ho
         simp [hk, hl]
         exact hok
     · trivial
   · trivial
 · trivial
def holOf : Cont → Option (Nm × Nat)
 | .cells [.slcc q m] => some (q, m)
 | _ => none
theorem holOf_spec {σ : Sig} {c : Cont} {p q : Nm} {n : Nat} (h : holOf c = some (p, n)) (hs : sameN (σ q) p) : contR σ c (.cells [.slcc q n]) := by
 unfold holOf at h
 split at h
 · simp only [Option.some.injEq, Prod.mk.injEq] at h
   obtain ⟨rfl, rfl⟩ := h
   show eqvRL σ _ _
   simp [eqvRL, eqvR, hs]
 · cases h
def np6 (len hl : Nat) (km : Int × Int) (g gh : Nat → Nat) (i : Int) (hc : SV) (x : Heap) (m : Nat) : Fam := ⟨Nat, fun _ =>
 ⟨44, [(1, .slcc 1 1), (2, .ptr 3 0), (7, .ptr 4 0), (26, .int .i64 1), (27, .int .i64 i)], [(1, ⟨false, 118, .cells [.slcc 2 hl], 0⟩), (2, ⟨false, 100, .flts .f64 (2 * hl) gh, 0⟩), (3, ⟨false, 148, optC km.1 km.2, 0⟩), (4, ⟨true, 137, .cells [.ifc 157 (.ptr 6 0), .slcc 5 1], 0⟩), (5, ⟨true, 106, .cells [hc], 1⟩), (6, ⟨true, 150, .cells (rectS len true g 7 0), 0⟩), (7, ⟨true, 100, .flts .f64 (2 * len) g, 2⟩)] ++ x, m⟩, fun _ => True, fun _ => 0⟩
noncomputable def newPoly1C : List SV → RdM
 | [.slcc n len, .slcc h 1, .ptr o 0] => .read n fun o0 => (match fltsFrom .f64 o0.c with
   | some (m0, g) => .read h fun o1 => (match holOf o1.c with
   | some (q, hl) => .read q fun o2 => (match fltsFrom .f64 o2.c with
   | some (m2, gh) => .read o fun o3 => (match optOf o3.c with
   | some (k, m) => .ret ⟨[.slcc 0 len, .slcc 1 1, .ptr 3 0], [(0, ⟨false, 100, .flts .f64 m0 g, 0⟩), (1, ⟨false, 118, .cells [.slcc 2 hl], 0⟩), (2, ⟨false, 100, .flts .f64 m2 gh, 0⟩), (3, ⟨false, 148, optC k m, 0⟩)], .ptr 4 0, [], [(4, ⟨true, 137, .cells [.ifc 157 (.ptr 6 0), .slcc 5 1], 0⟩), (5, ⟨true, 106, .cells [.ifc 157 (.ptr 8 0)], 1⟩), (6, ⟨true, 150, .cells (rectS len true g 7 0), 0⟩), (7, ⟨true, 100, .flts .f64 (2 * len) g, 2⟩), (8, ⟨true, 150, .cells (rectS hl true gh 9 0), 0⟩), (9, ⟨true, 100, .flts .f64 (2 * hl) gh, 2⟩)], some (m0 = 2 * len ∧ m2 = 2 * hl ∧ k = 0 ∧ (len ≤ 1000000 ∧ (ppBig len true = true → ppOk g len)) ∧ (hl ≤ 1000000 ∧ (ppBig hl true = true → ppOk gh hl)))⟩
   | none => .fail)
   | none => .fail)
   | none => .fail)
   | none => .fail)
 | _ => .fail
theorem vc_newPoly1 (len hl : Nat) (m : Int) (k : Int) (_ : Nm)  (g : Nat → Nat) (gh : Nat → Nat) : runA GNP 4 [(6, .unr [np6 len hl (k, m) g gh 0 .nili [] 8, np6 len hl (k, m) g gh 1 (.ifc 157 (.ptr 8 0)) [(8, ⟨true, 150, .cells (rectS hl true gh 9 0), 0⟩), (9, ⟨true, 100, .flts .f64 (2 * hl) gh, 2⟩)] 10])] [] (codeOf Tryz.f91) (init Tryz.f91.ntmps [.slcc 0 len, .slcc 1 1, .ptr 3 0] [(0, ⟨false, 100, .flts .f64 (2 * len) g, 0⟩), (1, ⟨false, 118, .cells [.slcc 2 hl], 0⟩), (2, ⟨false, 100, .flts .f64 (2 * hl) gh, 0⟩), (3, ⟨false, 148, optC k m, 0⟩)] 4) (endK GNP.E.T Tryz.f91.results.toList fun S v => postP 4 ⟨[.slcc 0 len, .slcc 1 1, .ptr 3 0], [(0, ⟨false, 100, .flts .f64 (2 * len) g, 0⟩), (1, ⟨false, 118, .cells [.slcc 2 hl], 0⟩), (2, ⟨false, 100, .flts .f64 (2 * hl) gh, 0⟩), (3, ⟨false, 148, optC k m, 0⟩)], .ptr 4 0, [], [(4, ⟨true, 137, .cells [.ifc 157 (.ptr 6 0), .slcc 5 1], 0⟩), (5, ⟨true, 106, .cells [.ifc 157 (.ptr 8 0)], 1⟩), (6, ⟨true, 150, .cells (rectS len true g 7 0), 0⟩), (7, ⟨true, 100, .flts .f64 (2 * len) g, 2⟩), (8, ⟨true, 150, .cells (rectS hl true gh 9 0), 0⟩), (9, ⟨true, 100, .flts .f64 (2 * hl) gh, 2⟩)], some (2 * len = 2 * len ∧ 2 * hl = 2 * hl ∧ k = 0 ∧ (len ≤ 1000000 ∧ (ppBig len true = true → ppOk g len)) ∧ (hl ≤ 1000000 ∧ (ppBig hl true = true → ppOk gh hl)))⟩ S v) = (
(2 * len = 2 * len ∧ k = (0 : Int) ∧ len ≤ 1000000 ∧ (ppBig len true = true → ppOk g len)) ∧ (true = true → ((1 : Int) = 1 ∧ (0 : Int) ≤ 1 ∧ (1 : Int) ≤ (9223372036854775807
: Int) ∧ (16 : Int) ≤ 140737488355328) ∧ (∃ (_ : Nat), True ∧ ((True ∧ 1 = 1) ∧ (True ∧ 0 = 0) ∧ (True ∧ 0 = 0) ∧ (1 : Int) = 1 ∧ (0 : Int) = 0 ∧ True) ∧ True ∧ ((True ∧ hl = hl)
∧ True) ∧ True ∧ (2 * hl ≤ 2 * hl ∧ ∀ (i : Nat), i < 2 * hl → gh i = gh i) ∧ True ∧ (k = k ∧ m = m ∧ True) ∧ True ∧ (137 = 137 ∧ 0 = 0 ∧ (True ∧ 0 = 0) ∧ (True ∧ 1 = 1) ∧ True) ∧ True ∧ (106 = 106 ∧ 1 = 1 ∧ True ∧ True) ∧ True ∧ (150 = 150 ∧ 0 = 0 ∧ true = true ∧ (ppBig len true && fGt .f64 (cwF g len len)
0) = (ppBig len true && fGt .f64 (cwF g len len) 0) ∧ (ppBig len true && !(dcF g len len).2) = (ppBig len true && !Prod.snd
(dcF g len len)) ∧ (0 : Int) = 0 ∧ True ∧ pick (ppBig len true) (rlo g 0 len) = pick (ppBig len true) (rlo g
0 len) ∧ pick (ppBig len true) (rlo g 1 len) = pick (ppBig len true) (rlo g 1 len) ∧ pick
(ppBig len true) (rhi g 0 len) = pick (ppBig len true) (rhi g 0 len) ∧ pick (ppBig len true)
(rhi g 1 len) = pick (ppBig len true) (rhi g 1 len) ∧ (True ∧ len = len) ∧ True) ∧ True ∧ (100 = 100 ∧ 2 = 2 ∧ 2 * len ≤
2 * len ∧ ∀ (i : Nat), i < 2 * len → g i = g i) ∧ True) ∧ (∀ (_ : Nat), True → (true = true → (((0 : Int) ≤ 0 ∧ (0 : Int) < 1) ∧ True) ∧ (2 * hl = 2 * hl ∧ k = (0 : Int) ∧ hl ≤ 1000000 ∧
(ppBig hl true = true → ppOk gh hl)) ∧ (((0 : Int) ≤ 0 ∧ (0 : Int) < 1) ∧ True) ∧ true = true ∧ ∃ (_ : Nat), True ∧ ((True ∧ 1 = 1) ∧ (True ∧ 0 = 0) ∧ (True ∧ 0 = 0) ∧ (1 : Int) = 1 ∧ (1 : Int) = 1 ∧ True) ∧ True ∧ ((True ∧ hl = hl) ∧ True) ∧ True ∧ (2 * hl ≤ 2 * hl ∧ ∀ (i : Nat), i < 2 * hl → gh i = gh i) ∧ True ∧ (k = k ∧ m = m ∧ True) ∧ True ∧ (137 = 137 ∧ 0 = 0 ∧ (True ∧ 0 = 0) ∧ (True ∧ 1 = 1) ∧ True) ∧ True ∧ (106 = 106 ∧ 1 = 1 ∧ (True ∧ 0 = 0) ∧ True) ∧ True ∧ (150 = 150 ∧ 0 = 0 ∧ true = true ∧ (ppBig len true && fGt .f64 (cwF g len len) 0) = (ppBig len true && fGt .f64 (cwF g len len) 0) ∧
(ppBig len true && !(dcF g len len).2) = (ppBig len true && !(dcF g len len).2) ∧ (0 : Int) = 0 ∧ True ∧ pick (ppBig len
 true) (rlo g 0 len) = pick (ppBig len true) (rlo g 0 len) ∧ pick (ppBig len true) (rlo g 1 len) =
 pick (ppBig len true) (rlo g 1 len) ∧ pick (ppBig len true) (rhi g 0 len) = pick (ppBig
 len true) (rhi g 0 len) ∧ pick (ppBig len true) (rhi g 1 len) = pick (ppBig len true) (rhi g 1 len)
∧ (True ∧ len = len) ∧ True) ∧ True ∧ (100 = 100 ∧ 2 = 2 ∧ 2 * len ≤ 2 * len ∧ ∀ (i : Nat), i < 2 * len → g i = g i) ∧ True ∧ (150 = 150 ∧ 0 = 0 ∧ true = true ∧
(ppBig hl true && fGt .f64 (cwF gh hl hl) 0) = (ppBig hl true && fGt .f64 (cwF gh hl hl) 0) ∧ (ppBig hl true && !Prod.snd
(dcF gh hl hl)) = (ppBig hl true && !(dcF gh hl hl).2) ∧ (0 : Int) = 0 ∧ True ∧ pick (ppBig hl true) (rlo gh 0 hl) =
 pick (ppBig hl true) (rlo gh 0 hl) ∧ pick (ppBig hl true) (rlo gh 1 hl) = pick (ppBig hl
 true) (rlo gh 1 hl) ∧ pick (ppBig hl true) (rhi gh 0 hl) = pick (ppBig hl true) (rhi gh 0 hl) ∧
 pick (ppBig hl true) (rhi gh 1 hl) = pick (ppBig hl true) (rhi gh 1 hl) ∧ (True ∧ hl = hl) ∧ True) ∧ True ∧ (100 =
100 ∧ 2 = 2 ∧ 2 * hl ≤ 2 * hl ∧ ∀ (i : Nat), i < 2 * hl → gh i = gh i) ∧ True) ∧ (true = false → (True ∧ 0 = 0) ∧ True ∧ (137 = 137 ∧ 0 = 0 ∧ (True ∧ 0 = 0) ∧ (True ∧ 1 = 1) ∧ True) ∧ True ∧ (106 = 106 ∧ 1 = 1 ∧ False ∧ True) ∧ True ∧ (150 = 150 ∧ 0 = 0 ∧ true = true ∧ (ppBig len true &&
 fGt .f64 (cwF g len len) 0) = (ppBig len true && fGt .f64 (cwF g len len) 0) ∧ (ppBig len true && !(dcF g len len).2) =
(ppBig len true && !(dcF g len len).2) ∧ (0 : Int) = 0 ∧ True ∧ pick (ppBig len true) (rlo g 0 len) = pick
(ppBig len true) (rlo g 0 len) ∧ pick (ppBig len true) (rlo g 1 len) = pick (ppBig len true)
(rlo g 1 len) ∧ pick (ppBig len true) (rhi g 0 len) = pick (ppBig len true) (rhi g 0 len) ∧
 pick (ppBig len true) (rhi g 1 len) = pick (ppBig len true) (rhi g 1 len) ∧ (True ∧ len = len) ∧ True) ∧ True ∧ (100 =
100 ∧ 2 = 2 ∧ 2 * len ≤ 2 * len ∧ ∀ (i : Nat), i < 2 * len → g i = g i) ∧ True ∧ List.length (rectS hl true gh 9 (0 : Int)) = 0 ∧ True ∧ 2 * hl = 0 ∧
 True)) ∧ (∀ (_ : Nat), True → (false = true → False) ∧ (false = false → (True ∧ 0 = 0) ∧ True ∧ (137 = 137 ∧ 0 = 0 ∧ (True ∧ 0 = 0) ∧ (True ∧ 1 = 1) ∧ True) ∧ True ∧
(106 = 106 ∧ 1 = 1 ∧ (True ∧ 0 = 0) ∧ True) ∧ True ∧ (150 = 150 ∧ 0 = 0 ∧ true = true ∧ (ppBig len true && fGt .f64 (cwF g len
 len) 0) = (ppBig len true && fGt .f64 (cwF g len len) 0) ∧ (ppBig len true && !(dcF g len len).2) = (ppBig len true && !Prod.snd
(dcF g len len)) ∧ (0 : Int) = 0 ∧ True ∧ pick (ppBig len true) (rlo g 0 len) = pick (ppBig len true) (rlo g
0 len) ∧ pick (ppBig len true) (rlo g 1 len) = pick (ppBig len true) (rlo g 1 len) ∧ pick
(ppBig len true) (rhi g 0 len) = pick (ppBig len true) (rhi g 0 len) ∧ pick (ppBig len true)
(rhi g 1 len) = pick (ppBig len true) (rhi g 1 len) ∧ (True ∧ len = len) ∧ True) ∧ True ∧ (100 = 100 ∧ 2 = 2 ∧ 2 * len ≤
2 * len ∧ ∀ (i : Nat), i < 2 * len → g i = g i) ∧ True ∧ (150 = 150 ∧ 0 = 0 ∧ true = true ∧ (ppBig hl true && fGt .f64 (cwF gh hl hl) 0) =
(ppBig hl true && fGt .f64 (cwF gh hl hl) 0) ∧ (ppBig hl true && !(dcF gh hl hl).2) = (ppBig hl true && !(dcF gh
 hl hl).2) ∧ (0 : Int) = 0 ∧ True ∧ pick (ppBig hl true) (rlo gh 0 hl) = pick (ppBig hl true) (rlo gh 0 hl) ∧
 pick (ppBig hl true) (rlo gh 1 hl) = pick (ppBig hl true) (rlo gh 1 hl) ∧ pick (ppBig hl
 true) (rhi gh 0 hl) = pick (ppBig hl true) (rhi gh 0 hl) ∧ pick (ppBig hl true) (rhi gh 1 hl) =
 pick (ppBig hl true) (rhi gh 1 hl) ∧ (True ∧ hl = hl) ∧ True) ∧ True ∧ (100 = 100 ∧ 2 = 2 ∧ 2 * hl ≤ 2 * hl ∧ ∀ (i : Nat), i < 2 *
 hl → gh i = gh i) ∧ True)) ∧ True) ∧ (true = false → (True ∧ 0 = 0) ∧ True ∧ (137 = 137 ∧ 0 = 0 ∧ (True ∧ 0 = 0) ∧ 1 = 0 ∧ True) ∧ True ∧ 1 = 0 ∧ True ∧
(150 = 150 ∧ 0 = 0 ∧ true = true ∧ (ppBig len true && fGt .f64 (cwF g len len) 0) = (ppBig len true && fGt .f64 (cwF g len
 len) 0) ∧ (ppBig len true && !(dcF g len len).2) = (ppBig len true && !(dcF g len len).2) ∧ (0 : Int) = 0 ∧ True ∧ pick
(ppBig len true) (rlo g 0 len) = pick (ppBig len true) (rlo g 0 len) ∧ pick (ppBig len true)
(rlo g 1 len) = pick (ppBig len true) (rlo g 1 len) ∧ pick (ppBig len true) (rhi g 0 len) =
 pick (ppBig len true) (rhi g 0 len) ∧ pick (ppBig len true) (rhi g 1 len) = pick (ppBig
 len true) (rhi g 1 len) ∧ (True ∧ len = len) ∧ True) ∧ True ∧ (100 = 100 ∧ 2 = 2 ∧ 2 * len ≤ 2 * len ∧ ∀ (i : Nat), i < 2 * len → g i = g i) ∧ True ∧ List.length
(rectS hl true gh 9 (0 : Int)) = 0 ∧ True ∧ 2 * hl = 0 ∧ True)) := by kernel_rfl
theorem newPoly1 : ConOk Tryz.prog 91 (conR newPoly1C) := by
 refine con_of_vc gNP Tryz.func91 rfl (by kernel_rfl) fun args => ?_
 unfold newPoly1C
 split
 · rename_i n len h o
   intro o0
   show RdM.All _ (match fltsFrom .f64 o0.c with | some (m, g) => _ | none => _) _
   split
   · rename_i m0 g hm0
     intro o1
     show RdM.All _ (match holOf o1.c with | some (q, hl) => _ | none => _) _
     split
     · rename_i q hl hm1
       intro o2
       show RdM.All _ (match fltsFrom .f64 o2.c with | some (m, g) => _ | none => _) _
       split
       · rename_i m2 gh hm2
         intro o3
         show RdM.All _ (match optOf o3.c with | some (k, m) => _ | none => _) _
         split
         · rename_i k m hm3
           intro ho
           replace ho : m0 = 2 * len ∧ m2 = 2 * hl ∧ k = 0 ∧ (len ≤ 1000000 ∧ (ppBig len true = true → ppOk g len)) ∧ (hl ≤ 1000000 ∧ (ppBig hl true = true → ppOk gh hl)) := ho
           obtain ⟨hsz0, hsz2, ho⟩ := ho
           subst hsz0
           subst hsz2
           refine ⟨?_, _, _, (vc_newPoly1 len hl m k q g gh).mpr ?_⟩
           · refine okFlag_mk rfl ⟨?_, ⟨trivial, (contR_flts hm0).1, ⟨trivial, holOf_spec hm1 (by simp [sgSig, fsts, nth, sameN_self]), ⟨trivial, (contR_flts hm2).1, ⟨trivial, optOf_spec hm3, trivial⟩⟩⟩⟩⟩
             simp [eqvRL, eqvR, sgSig, fsts, nth, sameN_self]
           · obtain ⟨hk, ⟨h1, h2⟩, h3, h4⟩ := ho
             simp [hk, h1, h3]
             exact ⟨h2, h4⟩
         · trivial
       · trivial
     · trivial
   · trivial
 · trivial
def po0 : Cont → Option Nm
 | .cells [.ifc 157 (.ptr s 0), .nils] => some s
 | _ => none
theorem po0_spec {σ : Sig} {c : Cont} {p q : Nm} (h : po0 c = some p) (hs : sameN (σ q) p) : contR σ c (.cells [.ifc 157 (.ptr q 0), .nils]) := by
 unfold po0 at h
 split at h
 · simp only [Option.some.injEq] at h
   subst h
   show eqvRL σ _ _
   simp [eqvRL, eqvR, hs]
 · cases h
def po1 : Cont → Option (Nm × Nm)
 | .cells [.ifc 157 (.ptr s 0), .slcc h 1] => some (s, h)
 | _ => none
theorem po1_spec {σ : Sig} {c : Cont} {p q h h' : Nm} (hc : po1 c = some (p, h)) (hs : sameN (σ q) p) (hh : sameN (σ h') h) : contR σ c (.cells [.ifc 157 (.ptr q 0), .slcc h' 1]) := by
 unfold po1 at hc
 split at hc
 · simp only [Option.some.injEq, Prod.mk.injEq] at hc
   obtain ⟨rfl, rfl⟩ := hc
   show eqvRL σ _ _
   simp [eqvRL, eqvR, hs, hh]
 · cases hc
def ho1 : Cont → Option Nm
 | .cells [.ifc 157 (.ptr s 0)] => some s
 | _ => none
theorem ho1_spec {σ : Sig} {c : Cont} {p q : Nm} (h : ho1 c = some p) (hs : sameN (σ q) p) : contR σ c (.cells [.ifc 157 (.ptr q 0)]) := by
 unfold ho1 at h
 split at h
 · simp only [Option.some.injEq] at h
   subst h
   show eqvRL σ _ _
   simp [eqvRL, eqvR, hs]
 · cases h
def secIs (t : Nat) : List SV → Bool
 | [_, .ifc u _, _] => Nat.beq u t
 | _ => false
noncomputable def rcr2 : Con := swC (secIs 157) (conR rcrSSC) (conR rcrSRC)
theorem rcr2_ok : ConOk Tryz.prog 213 rcr2 := ConOk.sw rcrSS rcrSR
noncomputable def rir2 : Con := swC (ifcIs 102) (conR rirRSC) (swC (secIs 157) (conR rirSSC) (conR rirSRC))
theorem rir2_ok : ConOk Tryz.prog 212 rir2 := ConOk.sw rirRS (ConOk.sw rirSS rirSR)
noncomputable def GPM : Ctx := ⟨⟨tys, []⟩, [(213, rcr2), (212, rir2), (201, conR rilSLC), (235, conR rclSLC)]⟩
theorem gPM : CtxOk Tryz.prog GPM := ⟨⟨tysOk, FlatsOk.nil⟩, GamOk.cons rcr2_ok (GamOk.cons rir2_ok (GamOk.cons rilSL (GamOk.cons rclSL GamOk.nil))), by kernel_rfl⟩
noncomputable def pcl0C : List SV → RdM
 | [.ptr P 0, .ptr l 0] => .read P fun o0 => (match po0 o0.c with
   | some s => .read s fun o1 => (match serOf o1.c with
   | some (cl, cw, cv, k, x, y, z, w, q, n) => .read q fun o2 => (match fltsFrom .f64 o2.c with
   | some (m2, g) => .read l fun o3 => (match serOf o3.c with
   | some (cll, cwl, cvl, kl, xl, yl, zl, wl, ql, nl) => .read ql fun o4 => (match fltsFrom .f64 o4.c with
   | some (m4, gl) => .ret ⟨[.ptr 0 0, .ptr 3 0], [(0, ⟨false, 137, .cells [.ifc 157 (.ptr 1 0), .nils], 0⟩), (1, ⟨false, 150, serC cl cw cv k x y z w 2 n, 0⟩), (2, ⟨false, 100, .flts .f64 m2 g, 0⟩), (3, ⟨false, 152, serC cll cwl cvl kl xl yl zl wl 4 nl, 0⟩), (4, ⟨false, 100, .flts .f64 m4 gl, 0⟩)], .bool (rcrS g n (nsg cl n (wz g)) cl cw cv x y z w gl nl (nsg cll nl (wz gl)) cll xl yl zl wl true), [], [], some (m2 = 2 * n ∧ m4 = 2 * nl ∧ ((n ≤ 1000000 ∧ SmF g (2 * n)) ∧ (W1 x ∧ W1 y ∧ W1 z ∧ W1 w)) ∧ ((nl ≤ 1000000 ∧ SmF gl (2 * nl)) ∧ (W1 xl ∧ W1 yl ∧ W1 zl ∧ W1 wl)))⟩
   | none => .fail)
   | none => .fail)
   | none => .fail)
   | none => .fail)
   | none => .fail)
 | _ => .fail
theorem vc_pcl0 (cl cw cv : Bool) (k : Int) (x y z w : Nat) (_ : Nm) (n : Nat) (_ : Nm) (cll cwl cvl : Bool) (kl : Int) (xl yl zl wl : Nat) (_ : Nm) (nl : Nat)  (g : Nat → Nat) (gl : Nat → Nat) : runA GPM 5 [(6, .unr [⟨Nat, fun _ => ⟨40, [(0, .ptr 0 0), (1, .ptr 3 0), (30, .nils), (31, .int .i64 0), (32, .int .i64 0)], [(0, ⟨false, 137, .cells [.ifc 157 (.ptr 1 0), .nils], 0⟩), (1, ⟨false, 150, serC cl cw cv k x y z w 2 n, 0⟩), (2, ⟨false, 100, .flts .f64 (2 * n) g, 0⟩), (3, ⟨false, 152, serC cll cwl cvl kl xl yl zl wl 4 nl, 0⟩), (4, ⟨false, 100, .flts .f64 (2 * nl) gl, 0⟩)], 5⟩, fun _ => rcrS g n (nsg cl n (wz g)) cl cw cv x y z w gl nl (nsg cll nl (wz gl)) cll xl yl zl wl true = true, fun _ => 0⟩])] [] (codeOf Tryz.f237) (init Tryz.f237.ntmps [.ptr 0 0, .ptr 3 0] [(0, ⟨false, 137, .cells [.ifc 157 (.ptr 1 0), .nils], 0⟩), (1, ⟨false, 150, serC cl cw cv k x y z w 2 n, 0⟩), (2, ⟨false, 100, .flts .f64 (2 * n) g, 0⟩), (3, ⟨false, 152, serC cll cwl cvl kl xl yl zl wl 4 nl, 0⟩), (4, ⟨false, 100, .flts .f64 (2 * nl) gl, 0⟩)] 5) (endK GPM.E.T Tryz.f237.results.toList fun S v => postP 5 ⟨[.ptr 0 0, .ptr 3 0], [(0, ⟨false, 137, .cells [.ifc 157 (.ptr 1 0), .nils], 0⟩), (1, ⟨false, 150, serC cl cw cv k x y z w 2 n, 0⟩), (2, ⟨false, 100, .flts .f64 (2 * n) g, 0⟩), (3, ⟨false, 152, serC cll cwl cvl kl xl yl zl wl 4 nl, 0⟩), (4, ⟨false, 100, .flts .f64 (2 * nl) gl, 0⟩)], .bool (rcrS g n (nsg cl n (wz g)) cl cw cv x y z w gl nl (nsg cll nl (wz gl)) cll xl yl zl wl true), [], [], some (2 * n = 2 * n ∧ 2 * nl = 2 * nl ∧ ((n ≤ 1000000 ∧ SmF g (2 * n)) ∧ (W1 x ∧ W1 y ∧ W1 z ∧ W1 w)) ∧ ((nl ≤ 1000000 ∧ SmF gl (2 * nl)) ∧ (W1 xl ∧ W1 yl ∧ W1 zl ∧ W1 wl)))⟩ S v) = (
(2 * n = 2 * n ∧ 2 * nl = 2 * nl ∧ (n ≤ 1000000 ∧ SmF g (2 * n)) ∧ (nl ≤ 1000000 ∧ SmF gl (2 * nl)) ∧ W1 xl ∧ W1
 yl ∧ W1 zl ∧ W1 wl) ∧ ((!rcrS g n (nsg cl n (wz g)) cl cw cv x y z w gl nl (nsg cll nl (wz gl)) cll xl yl zl wl true) = true
→ rcrS g n (nsg cl n (wz g)) cl cw cv x y z w gl nl (nsg cll nl (wz gl)) cll xl yl zl wl true = false ∧ True) ∧ ((!rcrS g n
(nsg cl n (wz g)) cl cw cv x y z w gl nl (nsg cll nl (wz gl)) cll xl yl zl wl true) = false → (∃ (_ : Nat), rcrS g n (nsg cl n
(wz g)) cl cw cv x y z w gl nl (nsg cll nl (wz gl)) cll xl yl zl wl true = true ∧ ((True ∧ 0 = 0) ∧ (True ∧ 0 = 0) ∧ True ∧ (0 : Int) = 0 ∧ (0 : Int) = (0 :
 Int) ∧ True) ∧ True ∧ ((True ∧ 0 = 0) ∧ True ∧ True) ∧ True ∧ (cl = cl ∧ cw = cw ∧ cv = cv ∧ k = k ∧ True ∧ x = x ∧ y = y ∧ z = z ∧ w = w ∧ (True ∧ n = n) ∧ True) ∧ True ∧ (2 * n ≤ 2 * n ∧ ∀ (i : Nat), i < 2 *
 n → g i = g i) ∧ True ∧ (cll = cll ∧ cwl = cwl ∧ cvl = cvl ∧ kl = kl ∧ True ∧ xl = xl ∧ yl = yl ∧ zl = zl ∧ wl = wl ∧ (True ∧ nl = nl) ∧ True) ∧ True ∧ (2 * nl ≤ 2 * nl ∧ ∀ (i : Nat), i < 2 * nl → gl i = gl i) ∧ True) ∧ (∀ (_
: Nat), rcrS g n (nsg cl n (wz g)) cl cw cv x y z w gl nl (nsg cll nl (wz gl)) cll xl yl zl wl true = true → (false = true → False) ∧ (false = false →
 rcrS g n (nsg cl n (wz g)) cl cw cv x y z w gl nl (nsg cll nl (wz gl)) cll xl yl zl wl true = true ∧ True)) ∧ True)) := by kernel_rfl
theorem pcl0 : ConOk Tryz.prog 237 (conR pcl0C) := by
 refine con_of_vc gPM Tryz.func237 rfl (by kernel_rfl) fun args => ?_
 unfold pcl0C
 split
 · rename_i P l
   intro o0
   show RdM.All _ (match po0 o0.c with | some s => _ | none => _) _
   split
   · rename_i s hm0
     intro o1
     show RdM.All _ (match serOf o1.c with | some (cl, cw, cv, k, x, y, z, w, q, n) => _ | none => _) _
     split
     · rename_i cl cw cv k x y z w q n hm1
       intro o2
       show RdM.All _ (match fltsFrom .f64 o2.c with | some (m, g) => _ | none => _) _
       split
       · rename_i m2 g hm2
         intro o3
         show RdM.All _ (match serOf o3.c with | some (cll, cwl, cvl, kl, xl, yl, zl, wl, ql, nl) => _ | none => _) _
         split
         · rename_i cll cwl cvl kl xl yl zl wl ql nl hm3
           intro o4
           show RdM.All _ (match fltsFrom .f64 o4.c with | some (m, g) => _ | none => _) _
           split
           · rename_i m4 gl hm4
             intro ho
             replace ho : m2 = 2 * n ∧ m4 = 2 * nl ∧ ((n ≤ 1000000 ∧ SmF g (2 * n)) ∧ (W1 x ∧ W1 y ∧ W1 z ∧ W1 w)) ∧ ((nl ≤ 1000000 ∧ SmF gl (2 * nl)) ∧ (W1 xl ∧ W1 yl ∧ W1 zl ∧ W1 wl)) := ho
             obtain ⟨hsz2, hsz4, ho⟩ := ho
             subst hsz2
             subst hsz4
             refine ⟨?_, _, _, (vc_pcl0 cl cw cv k x y z w q n s cll cwl cvl kl xl yl zl wl ql nl g gl).mpr ?_⟩
             · refine okFlag_mk rfl ⟨?_, ⟨trivial, po0_spec hm0 (by simp [sgSig, fsts, nth, sameN_self]), ⟨trivial, serOf_spec hm1 (by simp [sgSig, fsts, nth, sameN_self]), ⟨trivial, (contR_flts hm2).1, ⟨trivial, serOf_spec hm3 (by simp [sgSig, fsts, nth, sameN_self]), ⟨trivial, (contR_flts hm4).1, trivial⟩⟩⟩⟩⟩⟩
               simp [eqvRL, eqvR, sgSig, fsts, nth, sameN_self]
             · generalize hv : (rcrS g n (nsg cl n (wz g)) cl cw cv x y z w gl nl (nsg cll nl (wz gl)) cll xl yl zl wl true) = r
               cases r <;> simp [ho]
           · trivial
         · trivial
       · trivial
     · trivial
   · trivial
 · trivial
noncomputable def pcl1C : List SV → RdM
 | [.ptr P 0, .ptr l 0] => .read P fun o0 => (match po1 o0.c with
   | some (s, h) => .read s fun o1 => (match serOf o1.c with
   | some (cl, cw, cv, k, x, y, z, w, q, n) => .read q fun o2 => (match fltsFrom .f64 o2.c with
   | some (m2, g) => .read h fun o3 => (match ho1 o3.c with
   | some e => .read e fun o4 => (match serOf o4.c with
   | some (clh, cwh, cvh, kh, xh, yh, zh, wh, qh, nh) => .read qh fun o5 => (match fltsFrom .f64 o5.c with
   | some (m5, gh) => .read l fun o6 => (match serOf o6.c with
   | some (cll, cwl, cvl, kl, xl, yl, zl, wl, ql, nl) => .read ql fun o7 => (match fltsFrom .f64 o7.c with
   | some (m7, gl) => .ret ⟨[.ptr 0 0, .ptr 6 0], [(0, ⟨false, 137, .cells [.ifc 157 (.ptr 1 0), .slcc 3 1], 0⟩), (1, ⟨false, 150, serC cl cw cv k x y z w 2 n, 0⟩), (2, ⟨false, 100, .flts .f64 m2 g, 0⟩), (3, ⟨false, 106, .cells [.ifc 157 (.ptr 4 0)], 0⟩), (4, ⟨false, 150, serC clh cwh cvh kh xh yh zh wh 5 nh, 0⟩), (5, ⟨false, 100, .flts .f64 m5 gh, 0⟩), (6, ⟨false, 152, serC cll cwl cvl kl xl yl zl wl 7 nl, 0⟩), (7, ⟨false, 100, .flts .f64 m7 gl, 0⟩)], .bool ((rcrS g n (nsg cl n (wz g)) cl cw cv x y z w gl nl (nsg cll nl (wz gl)) cll xl yl zl wl true) && !(rilS gh nh (nsg clh nh (wz gh)) clh xh yh zh wh gl nl (nsg cll nl (wz gl)) cll xl yl zl wl false)), [], [], some (m2 = 2 * n ∧ m5 = 2 * nh ∧ m7 = 2 * nl ∧ ((n ≤ 1000000 ∧ SmF g (2 * n)) ∧ (W1 x ∧ W1 y ∧ W1 z ∧ W1 w)) ∧ ((nh ≤ 1000000 ∧ SmF gh (2 * nh)) ∧ (W1 xh ∧ W1 yh ∧ W1 zh ∧ W1 wh)) ∧ ((nl ≤ 1000000 ∧ SmF gl (2 * nl)) ∧ (W1 xl ∧ W1 yl ∧ W1 zl ∧ W1 wl)))⟩
   | none => .fail)
   | none => .fail)
   | none => .fail)
   | none => .fail)
   | none => .fail)
   | none => .fail)
   | none => .fail)
   | none => .fail)
 | _ => .fail
theorem vc_pcl1 (cl cw cv : Bool) (k : Int) (x y z w : Nat) (_ : Nm) (n : Nat) (_ _ _ : Nm) (clh cwh cvh : Bool) (kh : Int) (xh yh zh wh : Nat) (_ : Nm) (nh : Nat) (cll cwl cvl : Bool) (kl : Int) (xl yl zl wl : Nat) (_ : Nm) (nl : Nat)  (g : Nat → Nat) (gh : Nat → Nat) (gl : Nat → Nat) : runA GPM 8 [(6, .unr [⟨Nat, fun _ => ⟨40, [(0, .ptr 0 0), (1, .ptr 6 0), (30, .slcc 3 1), (31, .int .i64 1), (32, .int .i64 0)], [(0, ⟨false, 137, .cells [.ifc 157 (.ptr 1 0), .slcc 3 1], 0⟩), (1, ⟨false, 150, serC cl cw cv k x y z w 2 n, 0⟩), (2, ⟨false, 100, .flts .f64 (2 * n) g, 0⟩), (3, ⟨false, 106, .cells [.ifc 157 (.ptr 4 0)], 0⟩), (4, ⟨false, 150, serC clh cwh cvh kh xh yh zh wh 5 nh, 0⟩), (5, ⟨false, 100, .flts .f64 (2 * nh) gh, 0⟩), (6, ⟨false, 152, serC cll cwl cvl kl xl yl zl wl 7 nl, 0⟩), (7, ⟨false, 100, .flts .f64 (2 * nl) gl, 0⟩)], 8⟩, fun _ => rcrS g n (nsg cl n (wz g)) cl cw cv x y z w gl nl (nsg cll nl (wz gl)) cll xl yl zl wl true = true, fun _ => 0⟩, ⟨Nat, fun _ => ⟨40, [(0, .ptr 0 0), (1, .ptr 6 0), (30, .slcc 3 1), (31, .int .i64 1), (32, .int .i64 1)], [(0, ⟨false, 137, .cells [.ifc 157 (.ptr 1 0), .slcc 3 1], 0⟩), (1, ⟨false, 150, serC cl cw cv k x y z w 2 n, 0⟩), (2, ⟨false, 100, .flts .f64 (2 * n) g, 0⟩), (3, ⟨false, 106, .cells [.ifc 157 (.ptr 4 0)], 0⟩), (4, ⟨false, 150, serC clh cwh cvh kh xh yh zh wh 5 nh, 0⟩), (5, ⟨false, 100, .flts .f64 (2 * nh) gh, 0⟩), (6, ⟨false, 152, serC cll cwl cvl kl xl yl zl wl 7 nl, 0⟩), (7, ⟨false, 100, .flts .f64 (2 * nl) gl, 0⟩)], 8⟩, fun _ => (rcrS g n (nsg cl n (wz g)) cl cw cv x y z w gl nl (nsg cll nl (wz gl)) cll xl yl zl wl true = true ∧ rilS gh nh (nsg clh nh (wz gh)) clh xh yh zh wh gl nl (nsg cll nl (wz gl)) cll xl yl zl wl false = false), fun _ => 0⟩])] [] (codeOf Tryz.f237) (init Tryz.f237.ntmps [.ptr 0 0, .ptr 6 0] [(0, ⟨false, 137, .cells [.ifc 157 (.ptr 1 0), .slcc 3 1], 0⟩), (1, ⟨false, 150, serC cl cw cv k x y z w 2 n, 0⟩), (2, ⟨false, 100, .flts .f64 (2 * n) g, 0⟩), (3, ⟨false, 106, .cells [.ifc 157 (.ptr 4 0)], 0⟩), (4, ⟨false, 150, serC clh cwh cvh kh xh yh zh wh 5 nh, 0⟩), (5, ⟨false, 100, .flts .f64 (2 * nh) gh, 0⟩), (6, ⟨false, 152, serC cll cwl cvl kl xl yl zl wl 7 nl, 0⟩), (7, ⟨false, 100, .flts .f64 (2 * nl) gl, 0⟩)] 8) (endK GPM.E.T Tryz.f237.results.toList fun S v => postP 8 ⟨[.ptr 0 0, .ptr 6 0], [(0, ⟨false, 137, .cells [.ifc 157 (.ptr 1 0), .slcc 3 1], 0⟩), (1, ⟨false, 150, serC cl cw cv k x y z w 2 n, 0⟩), (2, ⟨false, 100, .flts .f64 (2 * n) g, 0⟩), (3, ⟨false, 106, .cells [.ifc 157 (.ptr 4 0)], 0⟩), (4, ⟨false, 150, serC clh cwh cvh kh xh yh zh wh 5 nh, 0⟩), (5, ⟨false, 100, .flts .f64 (2 * nh) gh, 0⟩), (6, ⟨false, 152, serC cll cwl cvl kl xl yl zl wl 7 nl, 0⟩), (7, ⟨false, 100, .flts .f64 (2 * nl) gl, 0⟩)], .bool ((rcrS g n (nsg cl n (wz g)) cl cw cv x y z w gl nl (nsg cll nl (wz gl)) cll xl yl zl wl true) && !(rilS gh nh (nsg clh nh (wz gh)) clh xh yh zh wh gl nl (nsg cll nl (wz gl)) cll xl yl zl wl false)), [], [], some (2 * n = 2 * n ∧ 2 * nh = 2 * nh ∧ 2 * nl = 2 * nl ∧ ((n ≤ 1000000 ∧ SmF g (2 * n)) ∧ (W1 x ∧ W1 y ∧ W1 z ∧ W1 w)) ∧ ((nh ≤ 1000000 ∧ SmF gh (2 * nh)) ∧ (W1 xh ∧ W1 yh ∧ W1 zh ∧ W1 wh)) ∧ ((nl ≤ 1000000 ∧ SmF gl (2 * nl)) ∧ (W1 xl ∧ W1 yl ∧ W1 zl ∧ W1 wl)))⟩ S v) = (
(2 * n = 2 * n ∧ 2 * nl = 2 * nl ∧ (n ≤ 1000000 ∧ SmF g (2 * n)) ∧ (nl ≤ 1000000 ∧ SmF gl (2 * nl)) ∧ W1 xl ∧ W1
 yl ∧ W1 zl ∧ W1 wl) ∧ ((!rcrS g n (nsg cl n (wz g)) cl cw cv x y z w gl nl (nsg cll nl (wz gl)) cll xl yl zl wl true) = true
→ (rcrS g n (nsg cl n (wz g)) cl cw cv x y z w gl nl (nsg cll nl (wz gl)) cll xl yl zl wl true && !rilS gh nh (nsg clh nh
(wz gh)) clh xh yh zh wh gl nl (nsg cll nl (wz gl)) cll xl yl zl wl false) = false ∧ True) ∧ ((!rcrS g n (nsg cl n (wz g)) cl cw cv x y z w gl
 nl (nsg cll nl (wz gl)) cll xl yl zl wl true) = false → (∃ (_ : Nat), rcrS g n (nsg cl n (wz g)) cl cw cv x y z w gl nl (nsg cll nl
(wz gl)) cll xl yl zl wl true = true ∧ ((True ∧ 0 = 0) ∧ (True ∧ 0 = 0) ∧ (True ∧ 1 = 1) ∧ (1 : Int) = 1 ∧ (0 : Int) = 0 ∧ True) ∧ True ∧ ((True ∧ 0 = 0) ∧ (True ∧ 1 = 1) ∧ True) ∧ True ∧ (cl = cl ∧ cw = cw ∧ cv = cv ∧ k = k ∧ True ∧ x = x ∧ y = y ∧ z = z ∧ w = w ∧ (True ∧ n = n) ∧ True) ∧ True ∧ (2 * n ≤ 2 * n ∧ ∀ (i : Nat), i < 2 * n → g i = g i) ∧ True
∧ ((True ∧ 0 = 0) ∧ True) ∧ True ∧ (clh = clh ∧ cwh = cwh ∧ cvh = cvh ∧ kh = kh ∧ True ∧ xh = xh ∧ yh = yh ∧ zh = zh ∧ wh = wh ∧ (True ∧ nh = nh) ∧ True) ∧ True ∧ (2 * nh ≤ 2 * nh ∧ ∀ (i : Nat), i < 2 * nh → gh
 i = gh i) ∧ True ∧ (cll = cll ∧ cwl = cwl ∧ cvl = cvl ∧ kl = kl ∧ True ∧ xl = xl ∧ yl = yl ∧ zl = zl ∧ wl = wl ∧ (True ∧ nl = nl) ∧ True) ∧ True ∧ (2 * nl ≤ 2 * nl ∧ ∀ (i : Nat), i < 2 * nl → gl i = gl i) ∧ True) ∧ (∀ (_ :
 Nat), rcrS g n (nsg cl n (wz g)) cl cw cv x y z w gl nl (nsg cll nl (wz gl)) cll xl yl zl wl true = true → (true = true → (((0 : Int) ≤ 0 ∧ (0 : Int) <
(1 : Int)) ∧ True) ∧ (2 * nh = 2 * nh ∧ 2 * nl = 2 * nl ∧ (nh ≤ 1000000 ∧ SmF gh (2 * nh)) ∧ nl ≤ 1000000 ∧ SmF gl (2 * nl)) ∧ (rilS
 gh nh (nsg clh nh (wz gh)) clh xh yh zh wh gl nl (nsg cll nl (wz gl)) cll xl yl zl wl false = true → (rcrS g n (nsg cl n (wz
 g)) cl cw cv x y z w gl nl (nsg cll nl (wz gl)) cll xl yl zl wl true && !rilS gh nh (nsg clh nh (wz gh)) clh xh yh zh wh gl nl (nsg cll nl
(wz gl)) cll xl yl zl wl false) = false ∧ True) ∧ (rilS gh nh (nsg clh nh (wz gh)) clh xh yh zh wh gl nl (nsg cll nl (wz gl)) cll xl yl zl wl
 false = false → ∃ (_ : Nat), (rcrS g n (nsg cl n (wz g)) cl cw cv x y z w gl nl (nsg cll nl (wz gl)) cll xl yl zl wl true = true ∧ rilS gh nh
(nsg clh nh (wz gh)) clh xh yh zh wh gl nl (nsg cll nl (wz gl)) cll xl yl zl wl false = false) ∧ ((True ∧ 0 = 0) ∧ (True ∧ 0 = 0) ∧ (True ∧ 1 = 1) ∧ (1 : Int) = 1 ∧ (1 : Int) = 1 ∧ True) ∧ True ∧ ((True ∧ 0 = 0) ∧ (True ∧ 1 = 1) ∧ True) ∧ True ∧ (cl = cl ∧ cw = cw ∧ cv = cv ∧ k = k ∧ True ∧ x = x ∧ y = y ∧ z = z ∧ w = w ∧ (True ∧
 n = n) ∧ True) ∧ True ∧ (2 * n ≤ 2 * n ∧ ∀ (i : Nat), i < 2 * n → g i = g i) ∧ True ∧ ((True ∧ 0 = 0) ∧ True) ∧ True ∧ (clh = clh ∧ cwh = cwh ∧ cvh = cvh ∧ kh = kh ∧ True ∧ xh = xh ∧ yh = yh ∧ zh = zh ∧ wh = wh
∧ (True ∧ nh = nh) ∧ True) ∧ True ∧ (2 * nh ≤ 2 * nh ∧ ∀ (i : Nat), i < 2 * nh → gh i = gh i) ∧ True ∧ (cll = cll ∧ cwl = cwl ∧ cvl = cvl ∧ kl = kl ∧ True ∧ xl = xl ∧ yl = yl ∧ zl = zl ∧ wl = wl ∧ (True ∧ nl = nl) ∧ True) ∧
 True ∧ (2 * nl ≤ 2 * nl ∧ ∀ (i : Nat), i < 2 * nl → gl i = gl i) ∧ True)) ∧ (true = false → (rcrS g n (nsg cl n (wz g)) cl cw cv x y z w gl nl (nsg cll nl
(wz gl)) cll xl yl zl wl true && !rilS gh nh (nsg clh nh (wz gh)) clh xh yh zh wh gl nl (nsg cll nl (wz gl)) cll xl yl zl wl false) = true ∧
 True)) ∧ (∀ (_ : Nat), rcrS g n (nsg cl n (wz g)) cl cw cv x y z w gl nl (nsg cll nl (wz gl)) cll xl yl zl wl true = true ∧ rilS gh nh
(nsg clh nh (wz gh)) clh xh yh zh wh gl nl (nsg cll nl (wz gl)) cll xl yl zl wl false = false → (false = true → (((0 : Int) ≤ 1 ∧ (1 : Int) < 1) ∧ True) ∧ False)
∧ (false = false → (rcrS g n (nsg cl n (wz g)) cl cw cv x y z w gl nl (nsg cll nl (wz gl)) cll xl yl zl wl true && !rilS gh nh
(nsg clh nh (wz gh)) clh xh yh zh wh gl nl (nsg cll nl (wz gl)) cll xl yl zl wl false) = true ∧ True)) ∧ True)) := by kernel_rfl
theorem pcl1 : ConOk Tryz.prog 237 (conR pcl1C) := by
 refine con_of_vc gPM Tryz.func237 rfl (by kernel_rfl) fun args => ?_
 unfold pcl1C
 split
 · rename_i P l
   intro o0
   show RdM.All _ (match po1 o0.c with | some (s, h) => _ | none => _) _
   split
   · rename_i s h hm0
     intro o1
     show RdM.All _ (match serOf o1.c with | some (cl, cw, cv, k, x, y, z, w, q, n) => _ | none => _) _
     split
     · rename_i cl cw cv k x y z w q n hm1
       intro o2
       show RdM.All _ (match fltsFrom .f64 o2.c with | some (m, g) => _ | none => _) _
       split
       · rename_i m2 g hm2
         intro o3
         show RdM.All _ (match ho1 o3.c with | some e => _ | none => _) _
         split
         · rename_i e hm3
           intro o4
           show RdM.All _ (match serOf o4.c with | some (clh, cwh, cvh, kh, xh, yh, zh, wh, qh, nh) => _ | none => _) _
           split
           · rename_i clh cwh cvh kh xh yh zh wh qh nh hm4
             intro o5
             show RdM.All _ (match fltsFrom .f64 o5.c with | some (m, g) => _ | none => _) _
             split
             · rename_i m5 gh hm5
               intro o6
               show RdM.All _ (match serOf o6.c with | some (cll, cwl, cvl, kl, xl, yl, zl, wl, ql, nl) => _ | none => _) _
               split
               · rename_i cll cwl cvl kl xl yl zl wl ql nl hm6
                 intro o7
                 show RdM.All _ (match fltsFrom .f64 o7.c with | some (m, g) => _ | none => _) _
                 split
                 · rename_i m7 gl hm7
                   intro ho
                   replace ho : m2 = 2 * n ∧ m5 = 2 * nh ∧ m7 = 2 * nl ∧ ((n ≤ 1000000 ∧ SmF g (2 * n)) ∧ (W1 x ∧ W1 y ∧ W1 z ∧ W1 w)) ∧ ((nh ≤ 1000000 ∧ SmF gh (2 * nh)) ∧ (W1 xh ∧ W1 yh ∧ W1 zh ∧ W1 wh)) ∧ ((nl ≤ 1000000 ∧ SmF gl (2 * nl)) ∧ (W1 xl ∧ W1 yl ∧ W1 zl ∧ W1 wl)) := ho
                   obtain ⟨hsz2, hsz5, hsz7, ho⟩ := ho
                   subst hsz2
                   subst hsz5
                   subst hsz7
                   refine ⟨?_, _, _, (vc_pcl1 cl cw cv k x y z w q n s h e clh cwh cvh kh xh yh zh wh qh nh cll cwl cvl kl xl yl zl wl ql nl g gh gl).mpr ?_⟩
                   · refine okFlag_mk rfl ⟨?_, ⟨trivial, po1_spec hm0 (by simp [sgSig, fsts, nth, sameN_self]) (by simp [sgSig, fsts, nth, sameN_self]), ⟨trivial, serOf_spec hm1 (by simp [sgSig, fsts, nth, sameN_self]), ⟨trivial, (contR_flts hm2).1, ⟨trivial, ho1_spec hm3 (by simp [sgSig, fsts, nth, sameN_self]), ⟨trivial, serOf_spec hm4 (by simp [sgSig, fsts, nth, sameN_self]), ⟨trivial, (contR_flts hm5).1, ⟨trivial, serOf_spec hm6 (by simp [sgSig, fsts, nth, sameN_self]), ⟨trivial, (contR_flts hm7).1, trivial⟩⟩⟩⟩⟩⟩⟩⟩⟩
                     simp [eqvRL, eqvR, sgSig, fsts, nth, sameN_self]
                   · generalize hv : (rcrS g n (nsg cl n (wz g)) cl cw cv x y z w gl nl (nsg cll nl (wz gl)) cll xl yl zl wl true) = r
                     generalize ht : (rilS gh nh (nsg clh nh (wz gh)) clh xh yh zh wh gl nl (nsg cll nl (wz gl)) cll xl yl zl wl false) = t
                     cases r <;> cases t <;> simp [ho]
                 · trivial
               · trivial
             · trivial
           · trivial
         · trivial
       · trivial
     · trivial
   · trivial
 · trivial
noncomputable def pil0C : List SV → RdM
 | [.ptr P 0, .ptr l 0] => .read P fun o0 => (match po0 o0.c with
   | some s => .read s fun o1 => (match serOf o1.c with
   | some (cl, cw, cv, k, x, y, z, w, q, n) => .read q fun o2 => (match fltsFrom .f64 o2.c with
   | some (m2, g) => .read l fun o3 => (match serOf o3.c with
   | some (cll, cwl, cvl, kl, xl, yl, zl, wl, ql, nl) => .read ql fun o4 => (match fltsFrom .f64 o4.c with
   | some (m4, gl) => .ret ⟨[.ptr 0 0, .ptr 3 0], [(0, ⟨false, 137, .cells [.ifc 157 (.ptr 1 0), .nils], 0⟩), (1, ⟨false, 150, serC cl cw cv k x y z w 2 n, 0⟩), (2, ⟨false, 100, .flts .f64 m2 g, 0⟩), (3, ⟨false, 152, serC cll cwl cvl kl xl yl zl wl 4 nl, 0⟩), (4, ⟨false, 100, .flts .f64 m4 gl, 0⟩)], .bool (rilS g n (nsg cl n (wz g)) cl x y z w gl nl (nsg cll nl (wz gl)) cll xl yl zl wl true), [], [], some (m2 = 2 * n ∧ m4 = 2 * nl ∧ ((n ≤ 1000000 ∧ SmF g (2 * n)) ∧ (W1 x ∧ W1 y ∧ W1 z ∧ W1 w)) ∧ ((nl ≤ 1000000 ∧ SmF gl (2 * nl)) ∧ (W1 xl ∧ W1 yl ∧ W1 zl ∧ W1 wl)))⟩
   | none => .fail)
   | none => .fail)
   | none => .fail)
   | none => .fail)
   | none => .fail)
 | _ => .fail
theorem vc_pil0 (cl cw cv : Bool) (k : Int) (x y z w : Nat) (_ : Nm) (n : Nat) (_ : Nm) (cll cwl cvl : Bool) (kl : Int) (xl yl zl wl : Nat) (_ : Nm) (nl : Nat)  (g : Nat → Nat) (gl : Nat → Nat) : runA GPM 5 [(6, .unr [⟨Nat, fun _ => ⟨40, [(0, .ptr 0 0), (1, .ptr 3 0), (30, .nils), (31, .int .i64 0), (32, .int .i64 0)], [(0, ⟨false, 137, .cells [.ifc 157 (.ptr 1 0), .nils], 0⟩), (1, ⟨false, 150, serC cl cw cv k x y z w 2 n, 0⟩), (2, ⟨false, 100, .flts .f64 (2 * n) g, 0⟩), (3, ⟨false, 152, serC cll cwl cvl kl xl yl zl wl 4 nl, 0⟩), (4, ⟨false, 100, .flts .f64 (2 * nl) gl, 0⟩)], 5⟩, fun _ => rilS g n (nsg cl n (wz g)) cl x y z w gl nl (nsg cll nl (wz gl)) cll xl yl zl wl true = true, fun _ => 0⟩])] [] (codeOf Tryz.f233) (init Tryz.f233.ntmps [.ptr 0 0, .ptr 3 0] [(0, ⟨false, 137, .cells [.ifc 157 (.ptr 1 0), .nils], 0⟩), (1, ⟨false, 150, serC cl cw cv k x y z w 2 n, 0⟩), (2, ⟨false, 100, .flts .f64 (2 * n) g, 0⟩), (3, ⟨false, 152, serC cll cwl cvl kl xl yl zl wl 4 nl, 0⟩), (4, ⟨false, 100, .flts .f64 (2 * nl) gl, 0⟩)] 5) (endK GPM.E.T Tryz.f233.results.toList fun S v => postP 5 ⟨[.ptr 0 0, .ptr 3 0], [(0, ⟨false, 137, .cells [.ifc 157 (.ptr 1 0), .nils], 0⟩), (1, ⟨false, 150, serC cl cw cv k x y z w 2 n, 0⟩), (2, ⟨false, 100, .flts .f64 (2 * n) g, 0⟩), (3, ⟨false, 152, serC cll cwl cvl kl xl yl zl wl 4 nl, 0⟩), (4, ⟨false, 100, .flts .f64 (2 * nl) gl, 0⟩)], .bool (rilS g n (nsg cl n (wz g)) cl x y z w gl nl (nsg cll nl (wz gl)) cll xl yl zl wl true), [], [], some (2 * n = 2 * n ∧ 2 * nl = 2 * nl ∧ ((n ≤ 1000000 ∧ SmF g (2 * n)) ∧ (W1 x ∧ W1 y ∧ W1 z ∧ W1 w)) ∧ ((nl ≤ 1000000 ∧ SmF gl (2 * nl)) ∧ (W1 xl ∧ W1 yl ∧ W1 zl ∧ W1 wl)))⟩ S v) = (
(2 * n = 2 * n ∧ 2 * nl = 2 * nl ∧ (n ≤ 1000000 ∧ SmF g (2 * n)) ∧ nl ≤ 1000000 ∧ SmF gl (2 * nl)) ∧ ((!rilS g n
(nsg cl n (wz g)) cl x y z w gl nl (nsg cll nl (wz gl)) cll xl yl zl wl true) = true → rilS g n (nsg cl n (wz g)) cl x y z w
 gl nl (nsg cll nl (wz gl)) cll xl yl zl wl true = false ∧ True) ∧ ((!rilS g n (nsg cl n (wz g)) cl x y z w gl nl (nsg cll nl
(wz gl)) cll xl yl zl wl true) = false → (∃ (_ : Nat), rilS g n (nsg cl n (wz g)) cl x y z w gl nl (nsg cll nl (wz gl)) cll xl yl zl wl true =
 true ∧ ((True ∧ 0 = 0) ∧ (True ∧ 0 = 0) ∧ True ∧ (0 : Int) = 0 ∧ (0 : Int) = 0 ∧ True) ∧ True ∧ ((True ∧ 0 = 0) ∧ True ∧ True) ∧ True ∧ (cl = cl ∧ cw = cw ∧ cv = cv ∧ k = k ∧ True ∧ x =
 x ∧ y = y ∧ z = z ∧ w = w ∧ (True ∧ n = n) ∧ True) ∧ True ∧ (2 * n ≤ 2 * n ∧ ∀ (i : Nat), i < 2 * n → g i = g i) ∧ True ∧ (cll = cll ∧ cwl = cwl ∧ cvl = cvl ∧ kl = kl ∧ True ∧ xl = xl ∧ yl = yl ∧ zl = zl ∧ wl = wl ∧ (True ∧ nl
= nl) ∧ True) ∧ True ∧ (2 * nl ≤ 2 * nl ∧ ∀ (i : Nat), i < 2 * nl → gl i = gl i) ∧ True) ∧ (∀ (_ : Nat), rilS g n (nsg cl n (wz g)) cl x y z w gl nl (nsg
 cll nl (wz gl)) cll xl yl zl wl true = true → (false = true → False) ∧ (false = false → rilS g n (nsg cl n (wz g)) cl x y z w gl nl (nsg cll nl
(wz gl)) cll xl yl zl wl true = true ∧ True)) ∧ True)) := by kernel_rfl
theorem pil0 : ConOk Tryz.prog 233 (conR pil0C) := by
 refine con_of_vc gPM Tryz.func233 rfl (by kernel_rfl) fun args => ?_
 unfold pil0C
 split
 · rename_i P l
   intro o0
   show RdM.All _ (match po0 o0.c with | some s => _ | none => _) _
   split
   · rename_i s hm0
     intro o1
     show RdM.All _ (match serOf o1.c with | some (cl, cw, cv, k, x, y, z, w, q, n) => _ | none => _) _
     split
     · rename_i cl cw cv k x y z w q n hm1
       intro o2
       show RdM.All _ (match fltsFrom .f64 o2.c with | some (m, g) => _ | none => _) _
       split
       · rename_i m2 g hm2
         intro o3
         show RdM.All _ (match serOf o3.c with | some (cll, cwl, cvl, kl, xl, yl, zl, wl, ql, nl) => _ | none => _) _
         split
         · rename_i cll cwl cvl kl xl yl zl wl ql nl hm3
           intro o4
           show RdM.All _ (match fltsFrom .f64 o4.c with | some (m, g) => _ | none => _) _
           split
           · rename_i m4 gl hm4
             intro ho
             replace ho : m2 = 2 * n ∧ m4 = 2 * nl ∧ ((n ≤ 1000000 ∧ SmF g (2 * n)) ∧ (W1 x ∧ W1 y ∧ W1 z ∧ W1 w)) ∧ ((nl ≤ 1000000 ∧ SmF gl (2 * nl)) ∧ (W1 xl ∧ W1 yl ∧ W1 zl ∧ W1 wl)) := ho
             obtain ⟨hsz2, hsz4, ho⟩ := ho
             subst hsz2
             subst hsz4
             refine ⟨?_, _, _, (vc_pil0 cl cw cv k x y z w q n s cll cwl cvl kl xl yl zl wl ql nl g gl).mpr ?_⟩
             · refine okFlag_mk rfl ⟨?_, ⟨trivial, po0_spec hm0 (by simp [sgSig, fsts, nth, sameN_self]), ⟨trivial, serOf_spec hm1 (by simp [sgSig, fsts, nth, sameN_self]), ⟨trivial, (contR_flts hm2).1, ⟨trivial, serOf_spec hm3 (by simp [sgSig, fsts, nth, sameN_self]), ⟨trivial, (contR_flts hm4).1, trivial⟩⟩⟩⟩⟩⟩
               simp [eqvRL, eqvR, sgSig, fsts, nth, sameN_self]
             · generalize hv : (rilS g n (nsg cl n (wz g)) cl x y z w gl nl (nsg cll nl (wz gl)) cll xl yl zl wl true) = r
               cases r <;> simp [ho]
           · trivial
         · trivial
       · trivial
     · trivial
   · trivial
 · trivial
noncomputable def pil1C : List SV → RdM
 | [.ptr P 0, .ptr l 0] => .read P fun o0 => (match po1 o0.c with
   | some (s, h) => .read s fun o1 => (match serOf o1.c with
   | some (cl, cw, cv, k, x, y, z, w, q, n) => .read q fun o2 => (match fltsFrom .f64 o2.c with
   | some (m2, g) => .read h fun o3 => (match ho1 o3.c with
   | some e => .read e fun o4 => (match serOf o4.c with
   | some (clh, cwh, cvh, kh, xh, yh, zh, wh, qh, nh) => .read qh fun o5 => (match fltsFrom .f64 o5.c with
   | some (m5, gh) => .read l fun o6 => (match serOf o6.c with
   | some (cll, cwl, cvl, kl, xl, yl, zl, wl, ql, nl) => .read ql fun o7 => (match fltsFrom .f64 o7.c with
   | some (m7, gl) => .ret ⟨[.ptr 0 0, .ptr 6 0], [(0, ⟨false, 137, .cells [.ifc 157 (.ptr 1 0), .slcc 3 1], 0⟩), (1, ⟨false, 150, serC cl cw cv k x y z w 2 n, 0⟩), (2, ⟨false, 100, .flts .f64 m2 g, 0⟩), (3, ⟨false, 106, .cells [.ifc 157 (.ptr 4 0)], 0⟩), (4, ⟨false, 150, serC clh cwh cvh kh xh yh zh wh 5 nh, 0⟩), (5, ⟨false, 100, .flts .f64 m5 gh, 0⟩), (6, ⟨false, 152, serC cll cwl cvl kl xl yl zl wl 7 nl, 0⟩), (7, ⟨false, 100, .flts .f64 m7 gl, 0⟩)], .bool ((rilS g n (nsg cl n (wz g)) cl x y z w gl nl (nsg cll nl (wz gl)) cll xl yl zl wl true) && !(rcrS gh nh (nsg clh nh (wz gh)) clh cwh cvh xh yh zh wh gl nl (nsg cll nl (wz gl)) cll xl yl zl wl false)), [], [], some (m2 = 2 * n ∧ m5 = 2 * nh ∧ m7 = 2 * nl ∧ ((n ≤ 1000000 ∧ SmF g (2 * n)) ∧ (W1 x ∧ W1 y ∧ W1 z ∧ W1 w)) ∧ ((nh ≤ 1000000 ∧ SmF gh (2 * nh)) ∧ (W1 xh ∧ W1 yh ∧ W1 zh ∧ W1 wh)) ∧ ((nl ≤ 1000000 ∧ SmF gl (2 * nl)) ∧ (W1 xl ∧ W1 yl ∧ W1 zl ∧ W1 wl)))⟩
   | none => .fail)
   | none => .fail)
   | none => .fail)
   | none => .fail)
   | none => .fail)
   | none => .fail)
   | none => .fail)
   | none => .fail)
 | _ => .fail
theorem vc_pil1 (cl cw cv : Bool) (k : Int) (x y z w : Nat) (_ : Nm) (n : Nat) (_ _ _ : Nm) (clh cwh cvh : Bool) (kh : Int) (xh yh zh wh : Nat) (_ : Nm) (nh : Nat) (cll cwl cvl : Bool) (kl : Int) (xl yl zl wl : Nat) (_ : Nm) (nl : Nat)  (g : Nat → Nat) (gh : Nat → Nat) (gl : Nat → Nat) : runA GPM 8 [(6, .unr [⟨Nat, fun _ => ⟨40, [(0, .ptr 0 0), (1, .ptr 6 0), (30, .slcc 3 1), (31, .int .i64 1), (32, .int .i64 0)], [(0, ⟨false, 137, .cells [.ifc 157 (.ptr 1 0), .slcc 3 1], 0⟩), (1, ⟨false, 150, serC cl cw cv k x y z w 2 n, 0⟩), (2, ⟨false, 100, .flts .f64 (2 * n) g, 0⟩), (3, ⟨false, 106, .cells [.ifc 157 (.ptr 4 0)], 0⟩), (4, ⟨false, 150, serC clh cwh cvh kh xh yh zh wh 5 nh, 0⟩), (5, ⟨false, 100, .flts .f64 (2 * nh) gh, 0⟩), (6, ⟨false, 152, serC cll cwl cvl kl xl yl zl wl 7 nl, 0⟩), (7, ⟨false, 100, .flts .f64 (2 * nl) gl, 0⟩)], 8⟩, fun _ => rilS g n (nsg cl n (wz g)) cl x y z w gl nl (nsg cll nl (wz gl)) cll xl yl zl wl true = true, fun _ => 0⟩, ⟨Nat, fun _ => ⟨40, [(0, .ptr 0 0), (1, .ptr 6 0), (30, .slcc 3 1), (31, .int .i64 1), (32, .int .i64 1)], [(0, ⟨false, 137, .cells [.ifc 157 (.ptr 1 0), .slcc 3 1], 0⟩), (1, ⟨false, 150, serC cl cw cv k x y z w 2 n, 0⟩), (2, ⟨false, 100, .flts .f64 (2 * n) g, 0⟩), (3, ⟨false, 106, .cells [.ifc 157 (.ptr 4 0)], 0⟩), (4, ⟨false, 150, serC clh cwh cvh kh xh yh zh wh 5 nh, 0⟩), (5, ⟨false, 100, .flts .f64 (2 * nh) gh, 0⟩), (6, ⟨false, 152, serC cll cwl cvl kl xl yl zl wl 7 nl, 0⟩), (7, ⟨false, 100, .flts .f64 (2 * nl) gl, 0⟩)], 8⟩, fun _ => (rilS g n (nsg cl n (wz g)) cl x y z w gl nl (nsg cll nl (wz gl)) cll xl yl zl wl true = true ∧ rcrS gh nh (nsg clh nh (wz gh)) clh cwh cvh xh yh zh wh gl nl (nsg cll nl (wz gl)) cll xl yl zl wl false = false), fun _ => 0⟩])] [] (codeOf Tryz.f233) (init Tryz.f233.ntmps [.ptr 0 0, .ptr 6 0] [(0, ⟨false, 137, .cells [.ifc 157 (.ptr 1 0), .slcc 3 1], 0⟩), (1, ⟨false, 150, serC cl cw cv k x y z w 2 n, 0⟩), (2, ⟨false, 100, .flts .f64 (2 * n) g, 0⟩), (3, ⟨false, 106, .cells [.ifc 157 (.ptr 4 0)], 0⟩), (4, ⟨false, 150, serC clh cwh cvh kh xh yh zh wh 5 nh, 0⟩), (5, ⟨false, 100, .flts .f64 (2 * nh) gh, 0⟩), (6, ⟨false, 152, serC cll cwl cvl kl xl yl zl wl 7 nl, 0⟩), (7, ⟨false, 100, .flts .f64 (2 * nl) gl, 0⟩)] 8) (endK GPM.E.T Tryz.f233.results.toList fun S v => postP 8 ⟨[.ptr 0 0, .ptr 6 0], [(0, ⟨false, 137, .cells [.ifc 157 (.ptr 1 0), .slcc 3 1], 0⟩), (1, ⟨false, 150, serC cl cw cv k x y z w 2 n, 0⟩), (2, ⟨false, 100, .flts .f64 (2 * n) g, 0⟩), (3, ⟨false, 106, .cells [.ifc 157 (.ptr 4 0)], 0⟩), (4, ⟨false, 150, serC clh cwh cvh kh xh yh zh wh 5 nh, 0⟩), (5, ⟨false, 100, .flts .f64 (2 * nh) gh, 0⟩), (6, ⟨false, 152, serC cll cwl cvl kl xl yl zl wl 7 nl, 0⟩), (7, ⟨false, 100, .flts .f64 (2 * nl) gl, 0⟩)], .bool ((rilS g n (nsg cl n (wz g)) cl x y z w gl nl (nsg cll nl (wz gl)) cll xl yl zl wl true) && !(rcrS gh nh (nsg clh nh (wz gh)) clh cwh cvh xh yh zh wh gl nl (nsg cll nl (wz gl)) cll xl yl zl wl false)), [], [], some (2 * n = 2 * n ∧ 2 * nh = 2 * nh ∧ 2 * nl = 2 * nl ∧ ((n ≤ 1000000 ∧ SmF g (2 * n)) ∧ (W1 x ∧ W1 y ∧ W1 z ∧ W1 w)) ∧ ((nh ≤ 1000000 ∧ SmF gh (2 * nh)) ∧ (W1 xh ∧ W1 yh ∧ W1 zh ∧ W1 wh)) ∧ ((nl ≤ 1000000 ∧ SmF gl (2 * nl)) ∧ (W1 xl ∧ W1 yl ∧ W1 zl ∧ W1 wl)))⟩ S v) = (
(2 * n = 2 * n ∧ 2 * nl = 2 * nl ∧ (n ≤ 1000000 ∧ SmF g (2 * n)) ∧ nl ≤ 1000000 ∧ SmF gl (2 * nl)) ∧ ((!rilS g n
(nsg cl n (wz g)) cl x y z w gl nl (nsg cll nl (wz gl)) cll xl yl zl wl true) = true → (rilS g n (nsg cl n (wz g)) cl x y z
 w gl nl (nsg cll nl (wz gl)) cll xl yl zl wl true && !rcrS gh nh (nsg clh nh (wz gh)) clh cwh cvh xh yh zh wh gl nl (nsg cll nl
(wz gl)) cll xl yl zl wl false) = false ∧ True) ∧ ((!rilS g n (nsg cl n (wz g)) cl x y z w gl nl (nsg cll nl (wz gl)) cll xl yl zl wl true) =
 false → (∃ (_ : Nat), rilS g n (nsg cl n (wz g)) cl x y z w gl nl (nsg cll nl (wz gl)) cll xl yl zl wl true = true ∧ ((True ∧ 0 = 0) ∧ (True ∧
0 = 0) ∧ (True ∧ 1 = 1) ∧ (1 : Int) = 1 ∧ (0 : Int) = 0 ∧ True) ∧ True ∧ ((True ∧ 0 = 0) ∧ (True ∧ 1 = 1) ∧ True) ∧ True ∧ (cl = cl ∧ cw = cw ∧ cv = cv ∧ k = k ∧ True ∧ x
= x ∧ y = y ∧ z = z ∧ w = w ∧ (True ∧ n = n) ∧ True) ∧ True ∧ (2 * n ≤ 2 * n ∧ ∀ (i : Nat), i < 2 * n → g i = g i) ∧ True ∧ ((True ∧ 0 = 0) ∧ True) ∧ True ∧ (clh = clh ∧ cwh = cwh ∧ cvh = cvh ∧ kh = kh ∧ True ∧
 xh = xh ∧ yh = yh ∧ zh = zh ∧ wh = wh ∧ (True ∧ nh = nh) ∧ True) ∧ True ∧ (2 * nh ≤ 2 * nh ∧ ∀ (i : Nat), i < 2 * nh → gh i = gh i) ∧ True ∧ (cll = cll ∧ cwl = cwl ∧ cvl = cvl ∧ kl = kl ∧ True ∧ xl = xl ∧ yl = yl ∧ zl = zl ∧
 wl = wl ∧ (True ∧ nl = nl) ∧ True) ∧ True ∧ (2 * nl ≤ 2 * nl ∧ ∀ (i : Nat), i < 2 * nl → gl i = gl i) ∧ True) ∧ (∀ (_ : Nat), rilS g n (nsg cl n (wz g)) cl x y z w gl nl
(nsg cll nl (wz gl)) cll xl yl zl wl true = true → (true = true → (((0 : Int) ≤ 0 ∧ (0 : Int) < 1) ∧ True) ∧ (2 * nh = 2 * nh ∧ 2 * nl = 2 * nl ∧ (nh ≤ 1000000 ∧ SmF gh (2 * nh)) ∧ (nl ≤ 1000000 ∧ SmF gl (2 * nl)) ∧ W1 xl ∧ W1 yl ∧ W1 zl ∧ W1 wl) ∧ (rcrS
 gh nh (nsg clh nh (wz gh)) clh cwh cvh xh yh zh wh gl nl (nsg cll nl (wz gl)) cll xl yl zl wl false = true → (rilS g n (nsg cl n
(wz g)) cl x y z w gl nl (nsg cll nl (wz gl)) cll xl yl zl wl true && !rcrS gh nh (nsg clh nh (wz gh)) clh cwh cvh xh yh zh wh gl nl
(nsg cll nl (wz gl)) cll xl yl zl wl false) = false ∧ True) ∧ (rcrS gh nh (nsg clh nh (wz gh)) clh cwh cvh xh yh zh wh gl nl (nsg cll nl
(wz gl)) cll xl yl zl wl false = false → ∃ (_ : Nat), (rilS g n (nsg cl n (wz g)) cl x y z w gl nl (nsg cll nl (wz gl)) cll xl yl zl wl true =
 true ∧ rcrS gh nh (nsg clh nh (wz gh)) clh cwh cvh xh yh zh wh gl nl (nsg cll nl (wz gl)) cll xl yl zl wl false = false) ∧ ((True ∧ 0 = 0) ∧
(True ∧ 0 = 0) ∧ (True ∧ 1 = 1) ∧ (1 : Int) = 1 ∧ (1 : Int) = 1 ∧ True) ∧ True ∧ ((True ∧ 0 = 0) ∧ (True ∧ 1 = 1) ∧ True) ∧ True ∧ (cl = cl ∧ cw = cw ∧ cv = cv ∧ k = k ∧
 True ∧ x = x ∧ y = y ∧ z = z ∧ w = w ∧ (True ∧ n = n) ∧ True) ∧ True ∧ (2 * n ≤ 2 * n ∧ ∀ (i : Nat), i < 2 * n → g i = g i) ∧ True ∧ ((True ∧ 0 = 0) ∧ True) ∧ True ∧ (clh = clh ∧ cwh = cwh ∧ cvh = cvh ∧ kh = kh
∧ True ∧ xh = xh ∧ yh = yh ∧ zh = zh ∧ wh = wh ∧ (True ∧ nh = nh) ∧ True) ∧ True ∧ (2 * nh ≤ 2 * nh ∧ ∀ (i : Nat), i < 2 * nh → gh i = gh i) ∧ True ∧ (cll = cll ∧ cwl = cwl ∧ cvl = cvl ∧ kl = kl ∧ True ∧ xl = xl ∧ yl = yl ∧ zl
= zl ∧ wl = wl ∧ (True ∧ nl = nl) ∧ True) ∧ True ∧ (2 * nl ≤ 2 * nl ∧ ∀ (i : Nat), i < 2 * nl → gl i = gl i) ∧ True)) ∧ (true = false → (rilS g n (nsg cl n (wz g)) cl x y z
 w gl nl (nsg cll nl (wz gl)) cll xl yl zl wl true && !rcrS gh nh (nsg clh nh (wz gh)) clh cwh cvh xh yh zh wh gl nl (nsg cll nl
(wz gl)) cll xl yl zl wl false) = true ∧ True)) ∧ (∀ (_ : Nat), rilS g n (nsg cl n (wz g)) cl x y z w gl nl (nsg cll nl (wz gl)) cll xl yl zl
 wl true = true ∧ rcrS gh nh (nsg clh nh (wz gh)) clh cwh cvh xh yh zh wh gl nl (nsg cll nl (wz gl)) cll xl yl zl wl false = false → (false = true → (((0 : Int)
≤ (1 : Int) ∧ (1 : Int) < 1) ∧ True) ∧ False) ∧ (false = false → (rilS g n (nsg cl n (wz g)) cl x y z w gl nl (nsg cll nl (wz gl)) cll xl yl zl wl true
&& !rcrS gh nh (nsg clh nh (wz gh)) clh cwh cvh xh yh zh wh gl nl (nsg cll nl (wz gl)) cll xl yl zl wl false) = true ∧ True)) ∧ True)) := by kernel_rfl
theorem pil1 : ConOk Tryz.prog 233 (conR pil1C) := by
 refine con_of_vc gPM Tryz.func233 rfl (by kernel_rfl) fun args => ?_
 unfold pil1C
 split
 · rename_i P l
   intro o0
   show RdM.All _ (match po1 o0.c with | some (s, h) => _ | none => _) _
   split
   · rename_i s h hm0
     intro o1
     show RdM.All _ (match serOf o1.c with | some (cl, cw, cv, k, x, y, z, w, q, n) => _ | none => _) _
     split
     · rename_i cl cw cv k x y z w q n hm1
       intro o2
       show RdM.All _ (match fltsFrom .f64 o2.c with | some (m, g) => _ | none => _) _
       split
       · rename_i m2 g hm2
         intro o3
         show RdM.All _ (match ho1 o3.c with | some e => _ | none => _) _
         split
         · rename_i e hm3
           intro o4
           show RdM.All _ (match serOf o4.c with | some (clh, cwh, cvh, kh, xh, yh, zh, wh, qh, nh) => _ | none => _) _
           split
           · rename_i clh cwh cvh kh xh yh zh wh qh nh hm4
             intro o5
             show RdM.All _ (match fltsFrom .f64 o5.c with | some (m, g) => _ | none => _) _
             split
             · rename_i m5 gh hm5
               intro o6
               show RdM.All _ (match serOf o6.c with | some (cll, cwl, cvl, kl, xl, yl, zl, wl, ql, nl) => _ | none => _) _
               split
               · rename_i cll cwl cvl kl xl yl zl wl ql nl hm6
                 intro o7
                 show RdM.All _ (match fltsFrom .f64 o7.c with | some (m, g) => _ | none => _) _
                 split
                 · rename_i m7 gl hm7
                   intro ho
                   replace ho : m2 = 2 * n ∧ m5 = 2 * nh ∧ m7 = 2 * nl ∧ ((n ≤ 1000000 ∧ SmF g (2 * n)) ∧ (W1 x ∧ W1 y ∧ W1 z ∧ W1 w)) ∧ ((nh ≤ 1000000 ∧ SmF gh (2 * nh)) ∧ (W1 xh ∧ W1 yh ∧ W1 zh ∧ W1 wh)) ∧ ((nl ≤ 1000000 ∧ SmF gl (2 * nl)) ∧ (W1 xl ∧ W1 yl ∧ W1 zl ∧ W1 wl)) := ho
                   obtain ⟨hsz2, hsz5, hsz7, ho⟩ := ho
                   subst hsz2
                   subst hsz5
                   subst hsz7
                   refine ⟨?_, _, _, (vc_pil1 cl cw cv k x y z w q n s h e clh cwh cvh kh xh yh zh wh qh nh cll cwl cvl kl xl yl zl wl ql nl g gh gl).mpr ?_⟩
                   · refine okFlag_mk rfl ⟨?_, ⟨trivial, po1_spec hm0 (by simp [sgSig, fsts, nth, sameN_self]) (by simp [sgSig, fsts, nth, sameN_self]), ⟨trivial, serOf_spec hm1 (by simp [sgSig, fsts, nth, sameN_self]), ⟨trivial, (contR_flts hm2).1, ⟨trivial, ho1_spec hm3 (by simp [sgSig, fsts, nth, sameN_self]), ⟨trivial, serOf_spec hm4 (by simp [sgSig, fsts, nth, sameN_self]), ⟨trivial, (contR_flts hm5).1, ⟨trivial, serOf_spec hm6 (by simp [sgSig, fsts, nth, sameN_self]), ⟨trivial, (contR_flts hm7).1, trivial⟩⟩⟩⟩⟩⟩⟩⟩⟩
                     simp [eqvRL, eqvR, sgSig, fsts, nth, sameN_self]
                   · generalize hv : (rilS g n (nsg cl n (wz g)) cl x y z w gl nl (nsg cll nl (wz gl)) cll xl yl zl wl true) = r
                     generalize ht : (rcrS gh nh (nsg clh nh (wz gh)) clh cwh cvh xh yh zh wh gl nl (nsg cll nl (wz gl)) cll xl yl zl wl false) = t
                     cases r <;> cases t <;> simp [ho]
                 · trivial
               · trivial
             · trivial
           · trivial
         · trivial
       · trivial
     · trivial
   · trivial
 · trivial
noncomputable def pcp0C : List SV → RdM
 | [.ptr P 0, .ptr Y 0] => .read P fun o0 => (match po0 o0.c with
   | some s => .read s fun o1 => (match serOf o1.c with
   | some (cl, cw, cv, k, x, y, z, w, q, n) => .read q fun o2 => (match fltsFrom .f64 o2.c with
   | some (m2, g) => .read Y fun o3 => (match po0 o3.c with
   | some sy => .read sy fun o4 => (match serOf o4.c with
   | some (cly, cwy, cvy, ky, xy, yy, zy, wy, qy, ny) => .read qy fun o5 => (match fltsFrom .f64 o5.c with
   | some (m5, gy) => .ret ⟨[.ptr 0 0, .ptr 3 0], [(0, ⟨false, 137, .cells [.ifc 157 (.ptr 1 0), .nils], 0⟩), (1, ⟨false, 150, serC cl cw cv k x y z w 2 n, 0⟩), (2, ⟨false, 100, .flts .f64 m2 g, 0⟩), (3, ⟨false, 137, .cells [.ifc 157 (.ptr 4 0), .nils], 0⟩), (4, ⟨false, 150, serC cly cwy cvy ky xy yy zy wy 5 ny, 0⟩), (5, ⟨false, 100, .flts .f64 m5 gy, 0⟩)], .bool (rcrS g n (nsg cl n (wz g)) cl cw cv x y z w gy ny (nsg cly ny (wz gy)) cly xy yy zy wy true), [], [], some (m2 = 2 * n ∧ m5 = 2 * ny ∧ ((n ≤ 1000000 ∧ SmF g (2 * n)) ∧ (W1 x ∧ W1 y ∧ W1 z ∧ W1 w)) ∧ ((ny ≤ 1000000 ∧ SmF gy (2 * ny)) ∧ (W1 xy ∧ W1 yy ∧ W1 zy ∧ W1 wy)))⟩
   | none => .fail)
   | none => .fail)
   | none => .fail)
   | none => .fail)
   | none => .fail)
   | none => .fail)
 | _ => .fail
theorem vc_pcp0 (cl cw cv : Bool) (k : Int) (x y z w : Nat) (_ : Nm) (n : Nat) (_ : Nm) (cly cwy cvy : Bool) (ky : Int) (xy yy zy wy : Nat) (_ : Nm) (ny : Nat) (_ : Nm)  (g : Nat → Nat) (gy : Nat → Nat) : runA GPM 6 [(7, .unr [⟨Nat, fun _ => ⟨72, [(0, .ptr 0 0), (1, .ptr 3 0), (5, .tt), (43, .nils), (44, .int .i64 0), (45, .int .i64 0)], [(0, ⟨false, 137, .cells [.ifc 157 (.ptr 1 0), .nils], 0⟩), (1, ⟨false, 150, serC cl cw cv k x y z w 2 n, 0⟩), (2, ⟨false, 100, .flts .f64 (2 * n) g, 0⟩), (3, ⟨false, 137, .cells [.ifc 157 (.ptr 4 0), .nils], 0⟩), (4, ⟨false, 150, serC cly cwy cvy ky xy yy zy wy 5 ny, 0⟩), (5, ⟨false, 100, .flts .f64 (2 * ny) gy, 0⟩)], 6⟩, fun _ => rcrS g n (nsg cl n (wz g)) cl cw cv x y z w gy ny (nsg cly ny (wz gy)) cly xy yy zy wy true = true, fun _ => 0⟩])] [] (codeOf Tryz.f238) (init Tryz.f238.ntmps [.ptr 0 0, .ptr 3 0] [(0, ⟨false, 137, .cells [.ifc 157 (.ptr 1 0), .nils], 0⟩), (1, ⟨false, 150, serC cl cw cv k x y z w 2 n, 0⟩), (2, ⟨false, 100, .flts .f64 (2 * n) g, 0⟩), (3, ⟨false, 137, .cells [.ifc 157 (.ptr 4 0), .nils], 0⟩), (4, ⟨false, 150, serC cly cwy cvy ky xy yy zy wy 5 ny, 0⟩), (5, ⟨false, 100, .flts .f64 (2 * ny) gy, 0⟩)] 6) (endK GPM.E.T Tryz.f238.results.toList fun S v => postP 6 ⟨[.ptr 0 0, .ptr 3 0], [(0, ⟨false, 137, .cells [.ifc 157 (.ptr 1 0), .nils], 0⟩), (1, ⟨false, 150, serC cl cw cv k x y z w 2 n, 0⟩), (2, ⟨false, 100, .flts .f64 (2 * n) g, 0⟩), (3, ⟨false, 137, .cells [.ifc 157 (.ptr 4 0), .nils], 0⟩), (4, ⟨false, 150, serC cly cwy cvy ky xy yy zy wy 5 ny, 0⟩), (5, ⟨false, 100, .flts .f64 (2 * ny) gy, 0⟩)], .bool (rcrS g n (nsg cl n (wz g)) cl cw cv x y z w gy ny (nsg cly ny (wz gy)) cly xy yy zy wy true), [], [], some (2 * n = 2 * n ∧ 2 * ny = 2 * ny ∧ ((n ≤ 1000000 ∧ SmF g (2 * n)) ∧ (W1 x ∧ W1 y ∧ W1 z ∧ W1 w)) ∧ ((ny ≤ 1000000 ∧ SmF gy (2 * ny)) ∧ (W1 xy ∧ W1 yy ∧ W1 zy ∧ W1 wy)))⟩ S v) = (
(2 * n = 2 * n ∧ 2 * ny = 2 * ny ∧ (n ≤ 1000000 ∧ SmF g (2 * n)) ∧ (ny ≤ 1000000 ∧ SmF gy (2 * ny)) ∧ W1 xy ∧ W1
 yy ∧ W1 zy ∧ W1 wy) ∧ true = true ∧ ((!rcrS g n (nsg cl n (wz g)) cl cw cv x y z w gy ny (nsg cly ny (wz gy)) cly xy yy zy
 wy true) = true → rcrS g n (nsg cl n (wz g)) cl cw cv x y z w gy ny (nsg cly ny (wz gy)) cly xy yy zy wy true = false ∧ True) ∧ ((!rcrS g n
(nsg cl n (wz g)) cl cw cv x y z w gy ny (nsg cly ny (wz gy)) cly xy yy zy wy true) = false → (∃ (_ : Nat), rcrS g n (nsg cl n
(wz g)) cl cw cv x y z w gy ny (nsg cly ny (wz gy)) cly xy yy zy wy true = true ∧ ((True ∧ 0 = 0) ∧ (True ∧ 0 = 0) ∧ True ∧ True ∧ (0 : Int) = 0 ∧ (0 : Int)
= (0 : Int) ∧ True) ∧ True ∧ ((True ∧ 0 = 0) ∧ True ∧ True) ∧ True ∧ (cl = cl ∧ cw = cw ∧ cv = cv ∧ k = k ∧ True ∧ x = x ∧ y = y ∧ z = z ∧ w = w ∧ (True ∧ n = n) ∧ True) ∧ True ∧ (2 * n ≤ 2 * n ∧ ∀ (i : Nat), i < 2 * n → g i = g i) ∧ True ∧ ((True ∧ 0 = 0) ∧ True ∧ True) ∧ True ∧ (cly = cly ∧ cwy = cwy ∧ cvy = cvy ∧ ky = ky ∧ True ∧ xy = xy ∧ yy = yy ∧ zy = zy ∧ wy = wy ∧ (True ∧ ny = ny) ∧ True) ∧ True ∧ (2 * ny ≤ 2 * ny ∧
∀ (i : Nat), i < 2 * ny → gy i = gy i) ∧ True) ∧ (∀ (_ : Nat), rcrS g n (nsg cl n (wz g)) cl cw cv x y z w gy ny (nsg cly ny (wz gy)) cly xy yy zy wy
 true = true → (false = true → False) ∧ (false = false → rcrS g n (nsg cl n (wz g)) cl cw cv x y z w gy ny (nsg cly ny (wz gy)) cly xy yy zy wy true = true ∧
 True)) ∧ True)) := by kernel_rfl
theorem pcp0 : ConOk Tryz.prog 238 (conR pcp0C) := by
 refine con_of_vc gPM Tryz.func238 rfl (by kernel_rfl) fun args => ?_
 unfold pcp0C
 split
 · rename_i P Y
   intro o0
   show RdM.All _ (match po0 o0.c with | some s => _ | none => _) _
   split
   · rename_i s hm0
     intro o1
     show RdM.All _ (match serOf o1.c with | some (cl, cw, cv, k, x, y, z, w, q, n) => _ | none => _) _
     split
     · rename_i cl cw cv k x y z w q n hm1
       intro o2
       show RdM.All _ (match fltsFrom .f64 o2.c with | some (m, g) => _ | none => _) _
       split
       · rename_i m2 g hm2
         intro o3
         show RdM.All _ (match po0 o3.c with | some sy => _ | none => _) _
         split
         · rename_i sy hm3
           intro o4
           show RdM.All _ (match serOf o4.c with | some (cly, cwy, cvy, ky, xy, yy, zy, wy, qy, ny) => _ | none => _) _
           split
           · rename_i cly cwy cvy ky xy yy zy wy qy ny hm4
             intro o5
             show RdM.All _ (match fltsFrom .f64 o5.c with | some (m, g) => _ | none => _) _
             split
             · rename_i m5 gy hm5
               intro ho
               replace ho : m2 = 2 * n ∧ m5 = 2 * ny ∧ ((n ≤ 1000000 ∧ SmF g (2 * n)) ∧ (W1 x ∧ W1 y ∧ W1 z ∧ W1 w)) ∧ ((ny ≤ 1000000 ∧ SmF gy (2 * ny)) ∧ (W1 xy ∧ W1 yy ∧ W1 zy ∧ W1 wy)) := ho
               obtain ⟨hsz2, hsz5, ho⟩ := ho
               subst hsz2
               subst hsz5
               refine ⟨?_, _, _, (vc_pcp0 cl cw cv k x y z w q n s cly cwy cvy ky xy yy zy wy qy ny sy g gy).mpr ?_⟩
               · refine okFlag_mk rfl ⟨?_, ⟨trivial, po0_spec hm0 (by simp [sgSig, fsts, nth, sameN_self]), ⟨trivial, serOf_spec hm1 (by simp [sgSig, fsts, nth, sameN_self]), ⟨trivial, (contR_flts hm2).1, ⟨trivial, po0_spec hm3 (by simp [sgSig, fsts, nth, sameN_self]), ⟨trivial, serOf_spec hm4 (by simp [sgSig, fsts, nth, sameN_self]), ⟨trivial, (contR_flts hm5).1, trivial⟩⟩⟩⟩⟩⟩⟩
                 simp [eqvRL, eqvR, sgSig, fsts, nth, sameN_self]
               · generalize hv : (rcrS g n (nsg cl n (wz g)) cl cw cv x y z w gy ny (nsg cly ny (wz gy)) cly xy yy zy wy true) = r
                 cases r <;> simp [ho]
             · trivial
           · trivial
         · trivial
       · trivial
     · trivial
   · trivial
 · trivial
noncomputable def pcp1C : List SV → RdM
 | [.ptr P 0, .ptr Y 0] => .read P fun o0 => (match po1 o0.c with
   | some (s, h) => .read s fun o1 => (match serOf o1.c with
   | some (cl, cw, cv, k, x, y, z, w, q, n) => .read q fun o2 => (match fltsFrom .f64 o2.c with
   | some (m2, g) => .read h fun o3 => (match ho1 o3.c with
   | some e => .read e fun o4 => (match serOf o4.c with
   | some (clh, cwh, cvh, kh, xh, yh, zh, wh, qh, nh) => .read qh fun o5 => (match fltsFrom .f64 o5.c with
   | some (m5, gh) => .read Y fun o6 => (match po0 o6.c with
   | some sy => .read sy fun o7 => (match serOf o7.c with
   | some (cly, cwy, cvy, ky, xy, yy, zy, wy, qy, ny) => .read qy fun o8 => (match fltsFrom .f64 o8.c with
   | some (m8, gy) => .ret ⟨[.ptr 0 0, .ptr 6 0], [(0, ⟨false, 137, .cells [.ifc 157 (.ptr 1 0), .slcc 3 1], 0⟩), (1, ⟨false, 150, serC cl cw cv k x y z w 2 n, 0⟩), (2, ⟨false, 100, .flts .f64 m2 g, 0⟩), (3, ⟨false, 106, .cells [.ifc 157 (.ptr 4 0)], 0⟩), (4, ⟨false, 150, serC clh cwh cvh kh xh yh zh wh 5 nh, 0⟩), (5, ⟨false, 100, .flts .f64 m5 gh, 0⟩), (6, ⟨false, 137, .cells [.ifc 157 (.ptr 7 0), .nils], 0⟩), (7, ⟨false, 150, serC cly cwy cvy ky xy yy zy wy 8 ny, 0⟩), (8, ⟨false, 100, .flts .f64 m8 gy, 0⟩)], .bool ((rcrS g n (nsg cl n (wz g)) cl cw cv x y z w gy ny (nsg cly ny (wz gy)) cly xy yy zy wy true) && !(rirB (emp clh nh) (emp cly ny) (mt4 xh yh zh wh xy yy zy wy) (fGt .f64 (arF xy yy zy wy) (arF xh yh zh wh)) (anyB (sIs gy ny (nsg cly ny (wz gy)) xy yy zy wy gh nh false) (nsg clh nh (wz gh))) (anyB (sIs gh nh (nsg clh nh (wz gh)) xh yh zh wh gy ny false) (nsg cly ny (wz gy))))), [], [], some (m2 = 2 * n ∧ m5 = 2 * nh ∧ m8 = 2 * ny ∧ ((n ≤ 1000000 ∧ SmF g (2 * n)) ∧ (W1 x ∧ W1 y ∧ W1 z ∧ W1 w)) ∧ ((nh ≤ 1000000 ∧ SmF gh (2 * nh)) ∧ (W1 xh ∧ W1 yh ∧ W1 zh ∧ W1 wh)) ∧ ((ny ≤ 1000000 ∧ SmF gy (2 * ny)) ∧ (W1 xy ∧ W1 yy ∧ W1 zy ∧ W1 wy)))⟩
   | none => .fail)
   | none => .fail)
   | none => .fail)
   | none => .fail)
   | none => .fail)
   | none => .fail)
   | none => .fail)
   | none => .fail)
   | none => .fail)
 | _ => .fail
theorem vc_pcp1 (cl cw cv : Bool) (k : Int) (x y z w : Nat) (_ : Nm) (n : Nat) (_ _ _ : Nm) (clh cwh cvh : Bool) (kh : Int) (xh yh zh wh : Nat) (_ : Nm) (nh : Nat) (cly cwy cvy : Bool) (ky : Int) (xy yy zy wy : Nat) (_ : Nm) (ny : Nat) (_ : Nm)  (g : Nat → Nat) (gh : Nat → Nat) (gy : Nat → Nat) : runA GPM 9 [(7, .unr [⟨Nat, fun _ => ⟨72, [(0, .ptr 0 0), (1, .ptr 6 0), (5, .tt), (43, .slcc 3 1), (44, .int .i64 1), (45, .int .i64 0)], [(0, ⟨false, 137, .cells [.ifc 157 (.ptr 1 0), .slcc 3 1], 0⟩), (1, ⟨false, 150, serC cl cw cv k x y z w 2 n, 0⟩), (2, ⟨false, 100, .flts .f64 (2 * n) g, 0⟩), (3, ⟨false, 106, .cells [.ifc 157 (.ptr 4 0)], 0⟩), (4, ⟨false, 150, serC clh cwh cvh kh xh yh zh wh 5 nh, 0⟩), (5, ⟨false, 100, .flts .f64 (2 * nh) gh, 0⟩), (6, ⟨false, 137, .cells [.ifc 157 (.ptr 7 0), .nils], 0⟩), (7, ⟨false, 150, serC cly cwy cvy ky xy yy zy wy 8 ny, 0⟩), (8, ⟨false, 100, .flts .f64 (2 * ny) gy, 0⟩)], 9⟩, fun _ => rcrS g n (nsg cl n (wz g)) cl cw cv x y z w gy ny (nsg cly ny (wz gy)) cly xy yy zy wy true = true, fun _ => 0⟩, ⟨Nat, fun _ => ⟨72, [(0, .ptr 0 0), (1, .ptr 6 0), (5, .tt), (43, .slcc 3 1), (44, .int .i64 1), (45, .int .i64 1)], [(0, ⟨false, 137, .cells [.ifc 157 (.ptr 1 0), .slcc 3 1], 0⟩), (1, ⟨false, 150, serC cl cw cv k x y z w 2 n, 0⟩), (2, ⟨false, 100, .flts .f64 (2 * n) g, 0⟩), (3, ⟨false, 106, .cells [.ifc 157 (.ptr 4 0)], 0⟩), (4, ⟨false, 150, serC clh cwh cvh kh xh yh zh wh 5 nh, 0⟩), (5, ⟨false, 100, .flts .f64 (2 * nh) gh, 0⟩), (6, ⟨false, 137, .cells [.ifc 157 (.ptr 7 0), .nils], 0⟩), (7, ⟨false, 150, serC cly cwy cvy ky xy yy zy wy 8 ny, 0⟩), (8, ⟨false, 100, .flts .f64 (2 * ny) gy, 0⟩)], 9⟩, fun _ => (rcrS g n (nsg cl n (wz g)) cl cw cv x y z w gy ny (nsg cly ny (wz gy)) cly xy yy zy wy true = true ∧ rirB (emp clh nh) (emp cly ny) (mt4 xh yh zh wh xy yy zy wy) (fGt .f64 (arF xy yy zy wy) (arF xh yh zh wh)) (anyB (sIs gy ny (nsg cly ny (wz gy)) xy yy zy wy gh nh false) (nsg clh nh (wz gh))) (anyB (sIs gh nh (nsg clh nh (wz gh)) xh yh zh wh gy ny false) (nsg cly ny (wz gy))) = false), fun _ => 0⟩]), (12, .unr [⟨Nat, fun _ => ⟨72, [(5, .ff), (58, .nils), (59, .int .i64 0), (60, .int .i64 0)], [(0, ⟨false, 137, .cells [.ifc 157 (.ptr 1 0), .slcc 3 1], 0⟩), (1, ⟨false, 150, serC cl cw cv k x y z w 2 n, 0⟩), (2, ⟨false, 100, .flts .f64 (2 * n) g, 0⟩), (3, ⟨false, 106, .cells [.ifc 157 (.ptr 4 0)], 0⟩), (4, ⟨false, 150, serC clh cwh cvh kh xh yh zh wh 5 nh, 0⟩), (5, ⟨false, 100, .flts .f64 (2 * nh) gh, 0⟩), (6, ⟨false, 137, .cells [.ifc 157 (.ptr 7 0), .nils], 0⟩), (7, ⟨false, 150, serC cly cwy cvy ky xy yy zy wy 8 ny, 0⟩), (8, ⟨false, 100, .flts .f64 (2 * ny) gy, 0⟩)], 9⟩, fun _ => (rcrS g n (nsg cl n (wz g)) cl cw cv x y z w gy ny (nsg cly ny (wz gy)) cly xy yy zy wy true = true ∧ rirB (emp clh nh) (emp cly ny) (mt4 xh yh zh wh xy yy zy wy) (fGt .f64 (arF xy yy zy wy) (arF xh yh zh wh)) (anyB (sIs gy ny (nsg cly ny (wz gy)) xy yy zy wy gh nh false) (nsg clh nh (wz gh))) (anyB (sIs gh nh (nsg clh nh (wz gh)) xh yh zh wh gy ny false) (nsg cly ny (wz gy))) = true), fun _ => 0⟩])] [] (codeOf Tryz.f238) (init Tryz.f238.ntmps [.ptr 0 0, .ptr 6 0] [(0, ⟨false, 137, .cells [.ifc 157 (.ptr 1 0), .slcc 3 1], 0⟩), (1, ⟨false, 150, serC cl cw cv k x y z w 2 n, 0⟩), (2, ⟨false, 100, .flts .f64 (2 * n) g, 0⟩), (3, ⟨false, 106, .cells [.ifc 157 (.ptr 4 0)], 0⟩), (4, ⟨false, 150, serC clh cwh cvh kh xh yh zh wh 5 nh, 0⟩), (5, ⟨false, 100, .flts .f64 (2 * nh) gh, 0⟩), (6, ⟨false, 137, .cells [.ifc 157 (.ptr 7 0), .nils], 0⟩), (7, ⟨false, 150, serC cly cwy cvy ky xy yy zy wy 8 ny, 0⟩), (8, ⟨false, 100, .flts .f64 (2 * ny) gy, 0⟩)] 9) (endK GPM.E.T Tryz.f238.results.toList fun S v => postP 9 ⟨[.ptr 0 0, .ptr 6 0], [(0, ⟨false, 137, .cells [.ifc 157 (.ptr 1 0), .slcc 3 1], 0⟩), (1, ⟨false, 150, serC cl cw cv k x y z w 2 n, 0⟩), (2, ⟨false, 100, .flts .f64 (2 * n) g, 0⟩), (3, ⟨false, 106, .cells [.ifc 157 (.ptr 4 0)], 0⟩), (4, ⟨false, 150, serC clh cwh cvh kh xh yh zh wh 5 nh, 0⟩), (5, ⟨false, 100, .flts .f64 (2 * nh) gh, 0⟩), (6, ⟨false, 137, .cells [.ifc 157 (.ptr 7 0), .nils], 0⟩), (7, ⟨false, 150, serC cly cwy cvy ky xy yy zy wy 8 ny, 0⟩), (8, ⟨false, 100, .flts .f64 (2 * ny) gy, 0⟩)], .bool ((rcrS g n (nsg cl n (wz g)) cl cw cv x y z w gy ny (nsg cly ny (wz gy)) cly xy yy zy wy true) && !(rirB (emp clh nh) (emp cly ny) (mt4 xh yh zh wh xy yy zy wy) (fGt .f64 (arF xy yy zy wy) (arF xh yh zh wh)) (anyB (sIs gy ny (nsg cly ny (wz gy)) xy yy zy wy gh nh false) (nsg clh nh (wz gh))) (anyB (sIs gh nh (nsg clh nh (wz gh)) xh yh zh wh gy ny false) (nsg cly ny (wz gy))))), [], [], some (2 * n = 2 * n ∧ 2 * nh = 2 * nh ∧ 2 * ny = 2 * ny ∧ ((n ≤ 1000000 ∧ SmF g (2 * n)) ∧ (W1 x ∧ W1 y ∧ W1 z ∧ W1 w)) ∧ ((nh ≤ 1000000 ∧ SmF gh (2 * nh)) ∧ (W1 xh ∧ W1 yh ∧ W1 zh ∧ W1 wh)) ∧ ((ny ≤ 1000000 ∧ SmF gy (2 * ny)) ∧ (W1 xy ∧ W1 yy ∧ W1 zy ∧ W1 wy)))⟩ S v) = (
(2 * n = 2 * n ∧ 2 * ny = 2 * ny ∧ (n ≤ 1000000 ∧ SmF g (2 * n)) ∧ (ny ≤ 1000000 ∧ SmF gy (2 * ny)) ∧ W1 xy ∧ W1
 yy ∧ W1 zy ∧ W1 wy) ∧ true = true ∧ ((!rcrS g n (nsg cl n (wz g)) cl cw cv x y z w gy ny (nsg cly ny (wz gy)) cly xy yy zy
 wy true) = true → (rcrS g n (nsg cl n (wz g)) cl cw cv x y z w gy ny (nsg cly ny (wz gy)) cly xy yy zy wy true && !rirB (emp
 clh nh) (emp cly ny) (mt4 xh yh zh wh xy yy zy wy) (fGt .f64 (arF xy yy zy wy) (arF xh yh zh wh)) (anyB (sIs gy ny
(nsg cly ny (wz gy)) xy yy zy wy gh nh false) (nsg clh nh (wz gh))) (anyB (sIs gh nh (nsg clh nh (wz gh))
 xh yh zh wh gy ny false) (nsg cly ny (wz gy)))) = false ∧ True) ∧ ((!rcrS g n (nsg cl n (wz g)) cl cw cv x y z w gy ny (nsg cly ny
(wz gy)) cly xy yy zy wy true) = false → (∃ (_ : Nat), rcrS g n (nsg cl n (wz g)) cl cw cv x y z w gy ny (nsg cly ny (wz gy)) cly xy yy zy wy
 true = true ∧ ((True ∧ 0 = 0) ∧ (True ∧ 0 = 0) ∧ True ∧ (True ∧ 1 = 1) ∧ (1 : Int) = 1 ∧ (0 : Int) = 0 ∧ True) ∧ True ∧ ((True ∧ 0 = 0) ∧ (True ∧ 1 = 1) ∧
 True) ∧ True ∧ (cl = cl ∧ cw = cw ∧ cv = cv ∧ k = k ∧ True ∧ x = x ∧ y = y ∧ z = z ∧ w = w ∧ (True ∧ n = n) ∧ True) ∧ True ∧ (2 * n ≤ 2 * n ∧ ∀ (i : Nat), i < 2 * n → g i = g i) ∧ True ∧ ((True ∧ 0 = 0) ∧ True)
∧ True ∧ (clh = clh ∧ cwh = cwh ∧ cvh = cvh ∧ kh = kh ∧ True ∧ xh = xh ∧ yh = yh ∧ zh = zh ∧ wh = wh ∧ (True ∧ nh = nh) ∧ True) ∧ True ∧ (2 * nh ≤ 2 * nh ∧ ∀ (i : Nat), i < 2 * nh → gh i = gh i) ∧ True ∧ ((True ∧ 0 =
0) ∧ True ∧ True) ∧ True ∧ (cly = cly ∧ cwy = cwy ∧ cvy = cvy ∧ ky = ky ∧ True ∧ xy = xy ∧ yy = yy ∧ zy = zy ∧ wy = wy ∧ (True ∧ ny = ny) ∧ True) ∧ True ∧ (2 * ny ≤ 2 * ny ∧ ∀ (i : Nat), i < 2 * ny → gy i = gy i) ∧
 True) ∧ (∀ (_ : Nat), rcrS g n (nsg cl n (wz g)) cl cw cv x y z w gy ny (nsg cly ny (wz gy)) cly xy yy zy wy true = true → (true = true → (((0 : Int) ≤ (0 :
 Int) ∧ (0 : Int) < 1) ∧ True) ∧ (2 * nh = 2 * nh ∧ 2 * ny = 2 * ny ∧ ((nh ≤ 1000000 ∧ SmF gh (2 * nh)) ∧ W1 xh ∧ W1 yh ∧
 W1 zh ∧ W1 wh) ∧ (ny ≤ 1000000 ∧ SmF gy (2 * ny)) ∧ W1 xy ∧ W1 yy ∧ W1 zy ∧ W1 wy) ∧ (rirB
(emp clh nh) (emp cly ny) (mt4 xh yh zh wh xy yy zy wy) (fGt .f64 (arF xy yy zy wy) (arF xh yh zh wh)) (anyB (sIs gy
 ny (nsg cly ny (wz gy)) xy yy zy wy gh nh false) (nsg clh nh (wz gh))) (anyB (sIs gh nh (nsg clh nh (wz
 gh)) xh yh zh wh gy ny false) (nsg cly ny (wz gy))) = true → (∃ (_ : Nat), (rcrS g n (nsg cl n (wz g)) cl cw cv x y z w gy ny (nsg cly ny
(wz gy)) cly xy yy zy wy true = true ∧ rirB (emp clh nh) (emp cly ny) (mt4 xh yh zh wh xy yy zy wy) (fGt .f64 (arF xy yy zy wy)
(arF xh yh zh wh)) (anyB (sIs gy ny (nsg cly ny (wz gy)) xy yy zy wy gh nh false) (nsg clh nh (wz gh)))
(anyB (sIs gh nh (nsg clh nh (wz gh)) xh yh zh wh gy ny false) (nsg cly ny (wz gy))) = true) ∧ (True ∧ True ∧ (0 : Int) = 0 ∧ (0 :
 Int) = (0 : Int) ∧ True) ∧ True ∧ ((True ∧ 0 = 0) ∧ (True ∧ 1 = 1) ∧ True) ∧ True ∧ (cl = cl ∧ cw = cw ∧ cv = cv ∧ k = k ∧ True ∧ x = x ∧ y = y ∧ z = z ∧ w = w ∧ (True ∧ n = n) ∧ True) ∧ True ∧ (2 * n ≤ 2 * n ∧ ∀ (i : Nat), i < 2 * n → g i = g i) ∧ True ∧ ((True ∧ 0 = 0) ∧ True) ∧ True ∧ (clh = clh ∧ cwh = cwh ∧ cvh = cvh ∧ kh = kh ∧ True ∧ xh = xh ∧ yh = yh ∧ zh = zh ∧ wh = wh ∧ (True ∧ nh = nh) ∧ True) ∧ True ∧ (2 * nh ≤ 2 * nh ∧ ∀ (i : Nat), i < 2 * nh → gh i = gh i) ∧ True ∧ ((True ∧ 0 = 0) ∧ True ∧ True) ∧ True ∧ (cly = cly ∧ cwy = cwy ∧ cvy = cvy ∧ ky = ky ∧ True ∧ xy = xy ∧ yy = yy ∧ zy = zy ∧ wy = wy ∧ (True ∧ ny =
 ny) ∧ True) ∧ True ∧ (2 * ny ≤ 2 * ny ∧ ∀ (i : Nat), i < 2 * ny → gy i = gy i) ∧ True) ∧ (∀ (_ : Nat), rcrS g n (nsg cl n (wz g)) cl cw cv x y z w gy ny
(nsg cly ny (wz gy)) cly xy yy zy wy true = true ∧ rirB (emp clh nh) (emp cly ny) (mt4 xh yh zh wh xy yy zy wy) (fGt .f64
(arF xy yy zy wy) (arF xh yh zh wh)) (anyB (sIs gy ny (nsg cly ny (wz gy)) xy yy zy wy gh nh false) (nsg clh nh
(wz gh))) (anyB (sIs gh nh (nsg clh nh (wz gh)) xh yh zh wh gy ny false) (nsg cly ny (wz gy))) = true → (false = true →
 False) ∧ (false = false → (rcrS g n (nsg cl n (wz g)) cl cw cv x y z w gy ny (nsg cly ny (wz gy)) cly xy yy zy wy true && !rirB
(emp clh nh) (emp cly ny) (mt4 xh yh zh wh xy yy zy wy) (fGt .f64 (arF xy yy zy wy) (arF xh yh zh wh)) (anyB (sIs gy
 ny (nsg cly ny (wz gy)) xy yy zy wy gh nh false) (nsg clh nh (wz gh))) (anyB (sIs gh nh (nsg clh nh (wz
 gh)) xh yh zh wh gy ny false) (nsg cly ny (wz gy)))) = false ∧ True)) ∧ True) ∧ (rirB (emp clh nh) (emp cly ny) (mt4 xh yh zh wh xy yy zy wy)
(fGt .f64 (arF xy yy zy wy) (arF xh yh zh wh)) (anyB (sIs gy ny (nsg cly ny (wz gy)) xy yy zy wy gh nh false) (nsg clh
 nh (wz gh))) (anyB (sIs gh nh (nsg clh nh (wz gh)) xh yh zh wh gy ny false) (nsg cly ny (wz gy))) = false → ∃ (_ : Nat),
(rcrS g n (nsg cl n (wz g)) cl cw cv x y z w gy ny (nsg cly ny (wz gy)) cly xy yy zy wy true = true ∧ rirB (emp clh nh)
(emp cly ny) (mt4 xh yh zh wh xy yy zy wy) (fGt .f64 (arF xy yy zy wy) (arF xh yh zh wh)) (anyB (sIs gy ny (nsg cly ny
(wz gy)) xy yy zy wy gh nh false) (nsg clh nh (wz gh))) (anyB (sIs gh nh (nsg clh nh (wz gh)) xh yh zh wh gy ny false)
(nsg cly ny (wz gy))) = false) ∧ ((True ∧ 0 = 0) ∧ (True ∧ 0 = 0) ∧ True ∧ (True ∧ 1 = 1) ∧ (1 : Int) = 1 ∧ (1 : Int) = 1 ∧ True) ∧ True ∧ ((True ∧ 0 = 0) ∧ (True ∧ 1 = 1) ∧ True) ∧ True ∧ (cl = cl ∧ cw = cw ∧ cv = cv ∧ k = k ∧ True ∧ x = x ∧ y = y ∧ z = z ∧ w = w ∧ (True ∧ n = n) ∧ True) ∧ True ∧ (2 * n ≤ 2 * n ∧ ∀ (i : Nat), i < 2 * n → g i
= g i) ∧ True ∧ ((True ∧ 0 = 0) ∧ True) ∧ True ∧ (clh = clh ∧ cwh = cwh ∧ cvh = cvh ∧ kh = kh ∧ True ∧ xh = xh ∧ yh = yh ∧ zh = zh ∧ wh = wh ∧ (True ∧ nh = nh) ∧ True) ∧ True ∧ (2 * nh ≤ 2 * nh ∧ ∀ (i : Nat), i < 2 * nh → gh i = gh i) ∧ True ∧ ((True ∧ 0 = 0) ∧ True ∧ True) ∧ True ∧ (cly = cly ∧ cwy = cwy ∧ cvy = cvy ∧ ky = ky ∧ True ∧ xy = xy ∧ yy = yy ∧ zy = zy ∧ wy = wy ∧ (True ∧ ny = ny) ∧ True) ∧ True ∧ (2 * ny ≤ 2 * ny
∧ ∀ (i : Nat), i < 2 * ny → gy i = gy i) ∧ True)) ∧ (true = false → (rcrS g n (nsg cl n (wz g)) cl cw cv x y z w gy ny (nsg cly ny (wz gy)) cly xy yy zy
 wy true && !rirB (emp clh nh) (emp cly ny) (mt4 xh yh zh wh xy yy zy wy) (fGt .f64 (arF xy yy zy wy) (arF xh yh zh wh))
(anyB (sIs gy ny (nsg cly ny (wz gy)) xy yy zy wy gh nh false) (nsg clh nh (wz gh))) (anyB (sIs gh nh
(nsg clh nh (wz gh)) xh yh zh wh gy ny false) (nsg cly ny (wz gy)))) = true ∧ True)) ∧ (∀ (_ : Nat), rcrS g n (nsg cl n (wz
 g)) cl cw cv x y z w gy ny (nsg cly ny (wz gy)) cly xy yy zy wy true = true ∧ rirB (emp clh nh) (emp cly ny) (mt4 xh yh zh wh xy yy zy wy)
(fGt .f64 (arF xy yy zy wy) (arF xh yh zh wh)) (anyB (sIs gy ny (nsg cly ny (wz gy)) xy yy zy wy gh nh false) (nsg clh
 nh (wz gh))) (anyB (sIs gh nh (nsg clh nh (wz gh)) xh yh zh wh gy ny false) (nsg cly ny (wz gy))) = false → (false = true →
(((0 : Int) ≤ 1 ∧ (1 : Int) < 1) ∧ True) ∧ False) ∧ (false = false → (rcrS g n (nsg cl n (wz g)) cl cw cv x y z w gy ny (nsg cly ny (wz gy)) cly
 xy yy zy wy true && !rirB (emp clh nh) (emp cly ny) (mt4 xh yh zh wh xy yy zy wy) (fGt .f64 (arF xy yy zy wy) (arF xh yh zh wh))
(anyB (sIs gy ny (nsg cly ny (wz gy)) xy yy zy wy gh nh false) (nsg clh nh (wz gh))) (anyB (sIs gh nh
(nsg clh nh (wz gh)) xh yh zh wh gy ny false) (nsg cly ny (wz gy)))) = true ∧ True)) ∧ True)) := by kernel_rfl
theorem pcp1 : ConOk Tryz.prog 238 (conR pcp1C) := by
 refine con_of_vc gPM Tryz.func238 rfl (by kernel_rfl) fun args => ?_
 unfold pcp1C
 split
 · rename_i P Y
   intro o0
   show RdM.All _ (match po1 o0.c with | some (s, h) => _ | none => _) _
   split
   · rename_i s h hm0
     intro o1
     show RdM.All _ (match serOf o1.c with | some (cl, cw, cv, k, x, y, z, w, q, n) => _ | none => _) _
     split
     · rename_i cl cw cv k x y z w q n hm1
       intro o2
       show RdM.All _ (match fltsFrom .f64 o2.c with | some (m, g) => _ | none => _) _
       split
       · rename_i m2 g hm2
         intro o3
         show RdM.All _ (match ho1 o3.c with | some e => _ | none => _) _
         split
         · rename_i e hm3
           intro o4
           show RdM.All _ (match serOf o4.c with | some (clh, cwh, cvh, kh, xh, yh, zh, wh, qh, nh) => _ | none => _) _
           split
           · rename_i clh cwh cvh kh xh yh zh wh qh nh hm4
             intro o5
             show RdM.All _ (match fltsFrom .f64 o5.c with | some (m, g) => _ | none => _) _
             split
             · rename_i m5 gh hm5
               intro o6
               show RdM.All _ (match po0 o6.c with | some sy => _ | none => _) _
               split
               · rename_i sy hm6
                 intro o7
                 show RdM.All _ (match serOf o7.c with | some (cly, cwy, cvy, ky, xy, yy, zy, wy, qy, ny) => _ | none => _) _
                 split
                 · rename_i cly cwy cvy ky xy yy zy wy qy ny hm7
                   intro o8
                   show RdM.All _ (match fltsFrom .f64 o8.c with | some (m, g) => _ | none => _) _
                   split
                   · rename_i m8 gy hm8
                     intro ho
                     replace ho : m2 = 2 * n ∧ m5 = 2 * nh ∧ m8 = 2 * ny ∧ ((n ≤ 1000000 ∧ SmF g (2 * n)) ∧ (W1 x ∧ W1 y ∧ W1 z ∧ W1 w)) ∧ ((nh ≤ 1000000 ∧ SmF gh (2 * nh)) ∧ (W1 xh ∧ W1 yh ∧ W1 zh ∧ W1 wh)) ∧ ((ny ≤ 1000000 ∧ SmF gy (2 * ny)) ∧ (W1 xy ∧ W1 yy ∧ W1 zy ∧ W1 wy)) := ho
                     obtain ⟨hsz2, hsz5, hsz8, ho⟩ := ho
                     subst hsz2
                     subst hsz5
                     subst hsz8
                     refine ⟨?_, _, _, (vc_pcp1 cl cw cv k x y z w q n s h e clh cwh cvh kh xh yh zh wh qh nh cly cwy cvy ky xy yy zy wy qy ny sy g gh gy).mpr ?_⟩
                     · refine okFlag_mk rfl ⟨?_, ⟨trivial, po1_spec hm0 (by simp [sgSig, fsts, nth, sameN_self]) (by simp [sgSig, fsts, nth, sameN_self]), ⟨trivial, serOf_spec hm1 (by simp [sgSig, fsts, nth, sameN_self]), ⟨trivial, (contR_flts hm2).1, ⟨trivial, ho1_spec hm3 (by simp [sgSig, fsts, nth, sameN_self]), ⟨trivial, serOf_spec hm4 (by simp [sgSig, fsts, nth, sameN_self]), ⟨trivial, (contR_flts hm5).1, ⟨trivial, po0_spec hm6 (by simp [sgSig, fsts, nth, sameN_self]), ⟨trivial, serOf_spec hm7 (by simp [sgSig, fsts, nth, sameN_self]), ⟨trivial, (contR_flts hm8).1, trivial⟩⟩⟩⟩⟩⟩⟩⟩⟩⟩
                       simp [eqvRL, eqvR, sgSig, fsts, nth, sameN_self]
                     · generalize hv : (rcrS g n (nsg cl n (wz g)) cl cw cv x y z w gy ny (nsg cly ny (wz gy)) cly xy yy zy wy true) = r
                       generalize ht : (rirB (emp clh nh) (emp cly ny) (mt4 xh yh zh wh xy yy zy wy) (fGt .f64 (arF xy yy zy wy) (arF xh yh zh wh)) (anyB (sIs gy ny (nsg cly ny (wz gy)) xy yy zy wy gh nh false) (nsg clh nh (wz gh))) (anyB (sIs gh nh (nsg clh nh (wz gh)) xh yh zh wh gy ny false) (nsg cly ny (wz gy)))) = t
                       cases r <;> cases t <;> simp [ho]
                   · trivial
                 · trivial
               · trivial
             · trivial
           · trivial
         · trivial
       · trivial
     · trivial
   · trivial
 · trivial
noncomputable def pip0C : List SV → RdM
 | [.ptr P 0, .ptr Y 0] => .read P fun o0 => (match po0 o0.c with
   | some s => .read s fun o1 => (match serOf o1.c with
   | some (cl, cw, cv, k, x, y, z, w, q, n) => .read q fun o2 => (match fltsFrom .f64 o2.c with
   | some (m2, g) => .read Y fun o3 => (match po0 o3.c with
   | some sy => .read sy fun o4 => (match serOf o4.c with
   | some (cly, cwy, cvy, ky, xy, yy, zy, wy, qy, ny) => .read qy fun o5 => (match fltsFrom .f64 o5.c with
   | some (m5, gy) => .ret ⟨[.ptr 0 0, .ptr 3 0], [(0, ⟨false, 137, .cells [.ifc 157 (.ptr 1 0), .nils], 0⟩), (1, ⟨false, 150, serC cl cw cv k x y z w 2 n, 0⟩), (2, ⟨false, 100, .flts .f64 m2 g, 0⟩), (3, ⟨false, 137, .cells [.ifc 157 (.ptr 4 0), .nils], 0⟩), (4, ⟨false, 150, serC cly cwy cvy ky xy yy zy wy 5 ny, 0⟩), (5, ⟨false, 100, .flts .f64 m5 gy, 0⟩)], .bool (rirB (emp cly ny) (emp cl n) (mt4 xy yy zy wy x y z w) (fGt .f64 (arF x y z w) (arF xy yy zy wy)) (anyB (sIs g n (nsg cl n (wz g)) x y z w gy ny true) (nsg cly ny (wz gy))) (anyB (sIs gy ny (nsg cly ny (wz gy)) xy yy zy wy g n true) (nsg cl n (wz g)))), [], [], some (m2 = 2 * n ∧ m5 = 2 * ny ∧ ((n ≤ 1000000 ∧ SmF g (2 * n)) ∧ (W1 x ∧ W1 y ∧ W1 z ∧ W1 w)) ∧ ((ny ≤ 1000000 ∧ SmF gy (2 * ny)) ∧ (W1 xy ∧ W1 yy ∧ W1 zy ∧ W1 wy)))⟩
   | none => .fail)
   | none => .fail)
   | none => .fail)
   | none => .fail)
   | none => .fail)
   | none => .fail)
 | _ => .fail
theorem vc_pip0 (cl cw cv : Bool) (k : Int) (x y z w : Nat) (_ : Nm) (n : Nat) (_ : Nm) (cly cwy cvy : Bool) (ky : Int) (xy yy zy wy : Nat) (_ : Nm) (ny : Nat) (_ : Nm)  (g : Nat → Nat) (gy : Nat → Nat) : runA GPM 6 [(6, .unr [⟨Nat, fun _ => ⟨71, [(0, .ptr 0 0), (1, .ptr 3 0), (42, .nils), (43, .int .i64 0), (44, .int .i64 0)], [(0, ⟨false, 137, .cells [.ifc 157 (.ptr 1 0), .nils], 0⟩), (1, ⟨false, 150, serC cl cw cv k x y z w 2 n, 0⟩), (2, ⟨false, 100, .flts .f64 (2 * n) g, 0⟩), (3, ⟨false, 137, .cells [.ifc 157 (.ptr 4 0), .nils], 0⟩), (4, ⟨false, 150, serC cly cwy cvy ky xy yy zy wy 5 ny, 0⟩), (5, ⟨false, 100, .flts .f64 (2 * ny) gy, 0⟩)], 6⟩, fun _ => rirB (emp cly ny) (emp cl n) (mt4 xy yy zy wy x y z w) (fGt .f64 (arF x y z w) (arF xy yy zy wy)) (anyB (sIs g n (nsg cl n (wz g)) x y z w gy ny true) (nsg cly ny (wz gy))) (anyB (sIs gy ny (nsg cly ny (wz gy)) xy yy zy wy g n true) (nsg cl n (wz g))) = true, fun _ => 0⟩]), (12, .unr [⟨Nat, fun _ => ⟨71, [(0, .ptr 0 0), (1, .ptr 3 0), (58, .nils), (59, .int .i64 0), (60, .int .i64 0)], [(0, ⟨false, 137, .cells [.ifc 157 (.ptr 1 0), .nils], 0⟩), (1, ⟨false, 150, serC cl cw cv k x y z w 2 n, 0⟩), (2, ⟨false, 100, .flts .f64 (2 * n) g, 0⟩), (3, ⟨false, 137, .cells [.ifc 157 (.ptr 4 0), .nils], 0⟩), (4, ⟨false, 150, serC cly cwy cvy ky xy yy zy wy 5 ny, 0⟩), (5, ⟨false, 100, .flts .f64 (2 * ny) gy, 0⟩)], 6⟩, fun _ => rirB (emp cly ny) (emp cl n) (mt4 xy yy zy wy x y z w) (fGt .f64 (arF x y z w) (arF xy yy zy wy)) (anyB (sIs g n (nsg cl n (wz g)) x y z w gy ny true) (nsg cly ny (wz gy))) (anyB (sIs gy ny (nsg cly ny (wz gy)) xy yy zy wy g n true) (nsg cl n (wz g))) = true, fun _ => 0⟩])] [] (codeOf Tryz.f208) (init Tryz.f208.ntmps [.ptr 0 0, .ptr 3 0] [(0, ⟨false, 137, .cells [.ifc 157 (.ptr 1 0), .nils], 0⟩), (1, ⟨false, 150, serC cl cw cv k x y z w 2 n, 0⟩), (2, ⟨false, 100, .flts .f64 (2 * n) g, 0⟩), (3, ⟨false, 137, .cells [.ifc 157 (.ptr 4 0), .nils], 0⟩), (4, ⟨false, 150, serC cly cwy cvy ky xy yy zy wy 5 ny, 0⟩), (5, ⟨false, 100, .flts .f64 (2 * ny) gy, 0⟩)] 6) (endK GPM.E.T Tryz.f208.results.toList fun S v => postP 6 ⟨[.ptr 0 0, .ptr 3 0], [(0, ⟨false, 137, .cells [.ifc 157 (.ptr 1 0), .nils], 0⟩), (1, ⟨false, 150, serC cl cw cv k x y z w 2 n, 0⟩), (2, ⟨false, 100, .flts .f64 (2 * n) g, 0⟩), (3, ⟨false, 137, .cells [.ifc 157 (.ptr 4 0), .nils], 0⟩), (4, ⟨false, 150, serC cly cwy cvy ky xy yy zy wy 5 ny, 0⟩), (5, ⟨false, 100, .flts .f64 (2 * ny) gy, 0⟩)], .bool (rirB (emp cly ny) (emp cl n) (mt4 xy yy zy wy x y z w) (fGt .f64 (arF x y z w) (arF xy yy zy wy)) (anyB (sIs g n (nsg cl n (wz g)) x y z w gy ny true) (nsg cly ny (wz gy))) (anyB (sIs gy ny (nsg cly ny (wz gy)) xy yy zy wy g n true) (nsg cl n (wz g)))), [], [], some (2 * n = 2 * n ∧ 2 * ny = 2 * ny ∧ ((n ≤ 1000000 ∧ SmF g (2 * n)) ∧ (W1 x ∧ W1 y ∧ W1 z ∧ W1 w)) ∧ ((ny ≤ 1000000 ∧ SmF gy (2 * ny)) ∧ (W1 xy ∧ W1 yy ∧ W1 zy ∧ W1 wy)))⟩ S v) = (
(2 * ny = 2 * ny ∧ 2 * n = 2 * n ∧ ((ny ≤ 1000000 ∧ SmF gy (2 * ny)) ∧ W1 xy ∧ W1 yy ∧ W1 zy ∧ W1 wy) ∧ (n ≤
1000000 ∧ SmF g (2 * n)) ∧ W1 x ∧ W1 y ∧ W1 z ∧ W1 w) ∧ true = true ∧ ((!rirB (emp cly ny)
(emp cl n) (mt4 xy yy zy wy x y z w) (fGt .f64 (arF x y z w) (arF xy yy zy wy)) (anyB (sIs g n (nsg cl n
(wz g)) x y z w gy ny true) (nsg cly ny (wz gy))) (anyB (sIs gy ny (nsg cly ny (wz gy)) xy yy zy wy g n true)
(nsg cl n (wz g)))) = true → rirB (emp cly ny) (emp cl n) (mt4 xy yy zy wy x y z w) (fGt .f64 (arF x y z w)
(arF xy yy zy wy)) (anyB (sIs g n (nsg cl n (wz g)) x y z w gy ny true) (nsg cly ny (wz gy))) (anyB
(sIs gy ny (nsg cly ny (wz gy)) xy yy zy wy g n true) (nsg cl n (wz g))) = false ∧ True) ∧ ((!rirB (emp cly ny)
(emp cl n) (mt4 xy yy zy wy x y z w) (fGt .f64 (arF x y z w) (arF xy yy zy wy)) (anyB (sIs g n (nsg cl n
(wz g)) x y z w gy ny true) (nsg cly ny (wz gy))) (anyB (sIs gy ny (nsg cly ny (wz gy)) xy yy zy wy g n true)
(nsg cl n (wz g)))) = false → (∃ (_ : Nat), rirB (emp cly ny) (emp cl n) (mt4 xy yy zy wy x y z w) (fGt .f64 (arF x y
 z w) (arF xy yy zy wy)) (anyB (sIs g n (nsg cl n (wz g)) x y z w gy ny true) (nsg cly ny (wz gy))) (anyB
(sIs gy ny (nsg cly ny (wz gy)) xy yy zy wy g n true) (nsg cl n (wz g))) = true ∧ ((True ∧ 0 = 0) ∧ (True ∧ 0 = 0) ∧ True ∧ (0 :
 Int) = (0 : Int) ∧ (0 : Int) = 0 ∧ True) ∧ True ∧ ((True ∧ 0 = 0) ∧ True ∧ True) ∧ True ∧ (cl = cl ∧ cw = cw ∧ cv = cv ∧ k = k ∧ True ∧ x = x ∧ y = y ∧ z = z ∧ w = w ∧ (True ∧ n = n) ∧ True) ∧ True ∧ (2 * n ≤ 2
* n ∧ ∀ (i : Nat), i < 2 * n → g i = g i) ∧ True ∧ ((True ∧ 0 = 0) ∧ True ∧ True) ∧ True ∧ (cly = cly ∧ cwy = cwy ∧ cvy = cvy ∧ ky = ky ∧ True ∧ xy = xy ∧ yy = yy ∧ zy = zy ∧ wy = wy ∧ (True ∧ ny = ny) ∧ True) ∧ True ∧ (2 * ny ≤ 2 * ny ∧ ∀ (i : Nat), i < 2 * ny → gy i = gy i) ∧ True) ∧ (∀ (_ : Nat), rirB (emp cly ny) (emp cl n) (mt4 xy yy zy wy x y z w) (fGt .f64
(arF x y z w) (arF xy yy zy wy)) (anyB (sIs g n (nsg cl n (wz g)) x y z w gy ny true) (nsg cly ny (wz
 gy))) (anyB (sIs gy ny (nsg cly ny (wz gy)) xy yy zy wy g n true) (nsg cl n (wz g))) = true → (false = true → False) ∧ (false = false → (∃ (_
: Nat), rirB (emp cly ny) (emp cl n) (mt4 xy yy zy wy x y z w) (fGt .f64 (arF x y z w) (arF xy yy zy wy)) (anyB
(sIs g n (nsg cl n (wz g)) x y z w gy ny true) (nsg cly ny (wz gy))) (anyB (sIs gy ny (nsg cly ny
(wz gy)) xy yy zy wy g n true) (nsg cl n (wz g))) = true ∧ ((True ∧ 0 = 0) ∧ (True ∧ 0 = 0) ∧ True ∧ (0 : Int) = 0 ∧ (0 : Int) = 0 ∧ True) ∧ True ∧
((True ∧ 0 = 0) ∧ True ∧ True) ∧ True ∧ (cl = cl ∧ cw = cw ∧ cv = cv ∧ k = k ∧ True ∧ x = x ∧ y = y ∧ z = z ∧ w = w ∧ (True ∧ n = n) ∧ True) ∧ True ∧ (2 * n ≤ 2 * n ∧ ∀ (i : Nat), i < 2 * n → g i = g i) ∧ True
∧ ((True ∧ 0 = 0) ∧ True ∧ True) ∧ True ∧ (cly = cly ∧ cwy = cwy ∧ cvy = cvy ∧ ky = ky ∧ True ∧ xy = xy ∧ yy = yy ∧ zy = zy ∧ wy = wy ∧ (True ∧ ny = ny) ∧ True) ∧ True ∧ (2 * ny ≤ 2 * ny ∧ ∀ (i : Nat), i < 2 *
 ny → gy i = gy i) ∧ True) ∧ (∀ (_ : Nat), rirB (emp cly ny) (emp cl n) (mt4 xy yy zy wy x y z w) (fGt .f64 (arF x y z w) (arF xy yy zy
 wy)) (anyB (sIs g n (nsg cl n (wz g)) x y z w gy ny true) (nsg cly ny (wz gy))) (anyB (sIs gy ny
(nsg cly ny (wz gy)) xy yy zy wy g n true) (nsg cl n (wz g))) = true → (false = true → False) ∧ (false = false → rirB (emp cly ny)
(emp cl n) (mt4 xy yy zy wy x y z w) (fGt .f64 (arF x y z w) (arF xy yy zy wy)) (anyB (sIs g n (nsg cl n
(wz g)) x y z w gy ny true) (nsg cly ny (wz gy))) (anyB (sIs gy ny (nsg cly ny (wz gy)) xy yy zy wy g n true)
(nsg cl n (wz g))) = true ∧ True)) ∧ True)) ∧ True)) := by kernel_rfl
theorem pip0 : ConOk Tryz.prog 208 (conR pip0C) := by
 refine con_of_vc gPM Tryz.func208 rfl (by kernel_rfl) fun args => ?_
 unfold pip0C
 split
 · rename_i P Y
   intro o0
   show RdM.All _ (match po0 o0.c with | some s => _ | none => _) _
   split
   · rename_i s hm0
     intro o1
     show RdM.All _ (match serOf o1.c with | some (cl, cw, cv, k, x, y, z, w, q, n) => _ | none => _) _
     split
     · rename_i cl cw cv k x y z w q n hm1
       intro o2
       show RdM.All _ (match fltsFrom .f64 o2.c with | some (m, g) => _ | none => _) _
       split
       · rename_i m2 g hm2
         intro o3
         show RdM.All _ (match po0 o3.c with | some sy => _ | none => _) _
         split
         · rename_i sy hm3
           intro o4
           show RdM.All _ (match serOf o4.c with | some (cly, cwy, cvy, ky, xy, yy, zy, wy, qy, ny) => _ | none => _) _
           split
           · rename_i cly cwy cvy ky xy yy zy wy qy ny hm4
             intro o5
             show RdM.All _ (match fltsFrom .f64 o5.c with | some (m, g) => _ | none => _) _
             split
             · rename_i m5 gy hm5
               intro ho
               replace ho : m2 = 2 * n ∧ m5 = 2 * ny ∧ ((n ≤ 1000000 ∧ SmF g (2 * n)) ∧ (W1 x ∧ W1 y ∧ W1 z ∧ W1 w)) ∧ ((ny ≤ 1000000 ∧ SmF gy (2 * ny)) ∧ (W1 xy ∧ W1 yy ∧ W1 zy ∧ W1 wy)) := ho
               obtain ⟨hsz2, hsz5, ho⟩ := ho
               subst hsz2
               subst hsz5
               refine ⟨?_, _, _, (vc_pip0 cl cw cv k x y z w q n s cly cwy cvy ky xy yy zy wy qy ny sy g gy).mpr ?_⟩
               · refine okFlag_mk rfl ⟨?_, ⟨trivial, po0_spec hm0 (by simp [sgSig, fsts, nth, sameN_self]), ⟨trivial, serOf_spec hm1 (by simp [sgSig, fsts, nth, sameN_self]), ⟨trivial, (contR_flts hm2).1, ⟨trivial, po0_spec hm3 (by simp [sgSig, fsts, nth, sameN_self]), ⟨trivial, serOf_spec hm4 (by simp [sgSig, fsts, nth, sameN_self]), ⟨trivial, (contR_flts hm5).1, trivial⟩⟩⟩⟩⟩⟩⟩
                 simp [eqvRL, eqvR, sgSig, fsts, nth, sameN_self]
               · generalize hv : (rirB (emp cly ny) (emp cl n) (mt4 xy yy zy wy x y z w) (fGt .f64 (arF x y z w) (arF xy yy zy wy)) (anyB (sIs g n (nsg cl n (wz g)) x y z w gy ny true) (nsg cly ny (wz gy))) (anyB (sIs gy ny (nsg cly ny (wz gy)) xy yy zy wy g n true) (nsg cl n (wz g)))) = r
                 cases r <;> simp [ho]
             · trivial
           · trivial
         · trivial
       · trivial
     · trivial
   · trivial
 · trivial
noncomputable def pip1C : List SV → RdM
 | [.ptr P 0, .ptr Y 0] => .read P fun o0 => (match po1 o0.c with
   | some (s, h) => .read s fun o1 => (match serOf o1.c with
   | some (cl, cw, cv, k, x, y, z, w, q, n) => .read q fun o2 => (match fltsFrom .f64 o2.c with
   | some (m2, g) => .read h fun o3 => (match ho1 o3.c with
   | some e => .read e fun o4 => (match serOf o4.c with
   | some (clh, cwh, cvh, kh, xh, yh, zh, wh, qh, nh) => .read qh fun o5 => (match fltsFrom .f64 o5.c with
   | some (m5, gh) => .read Y fun o6 => (match po0 o6.c with
   | some sy => .read sy fun o7 => (match serOf o7.c with
   | some (cly, cwy, cvy, ky, xy, yy, zy, wy, qy, ny) => .read qy fun o8 => (match fltsFrom .f64 o8.c with
   | some (m8, gy) => .ret ⟨[.ptr 0 0, .ptr 6 0], [(0, ⟨false, 137, .cells [.ifc 157 (.ptr 1 0), .slcc 3 1], 0⟩), (1, ⟨false, 150, serC cl cw cv k x y z w 2 n, 0⟩), (2, ⟨false, 100, .flts .f64 m2 g, 0⟩), (3, ⟨false, 106, .cells [.ifc 157 (.ptr 4 0)], 0⟩), (4, ⟨false, 150, serC clh cwh cvh kh xh yh zh wh 5 nh, 0⟩), (5, ⟨false, 100, .flts .f64 m5 gh, 0⟩), (6, ⟨false, 137, .cells [.ifc 157 (.ptr 7 0), .nils], 0⟩), (7, ⟨false, 150, serC cly cwy cvy ky xy yy zy wy 8 ny, 0⟩), (8, ⟨false, 100, .flts .f64 m8 gy, 0⟩)], .bool ((rirB (emp cly ny) (emp cl n) (mt4 xy yy zy wy x y z w) (fGt .f64 (arF x y z w) (arF xy yy zy wy)) (anyB (sIs g n (nsg cl n (wz g)) x y z w gy ny true) (nsg cly ny (wz gy))) (anyB (sIs gy ny (nsg cly ny (wz gy)) xy yy zy wy g n true) (nsg cl n (wz g)))) && !(rcrS gh nh (nsg clh nh (wz gh)) clh cwh cvh xh yh zh wh gy ny (nsg cly ny (wz gy)) cly xy yy zy wy false)), [], [], some (m2 = 2 * n ∧ m5 = 2 * nh ∧ m8 = 2 * ny ∧ ((n ≤ 1000000 ∧ SmF g (2 * n)) ∧ (W1 x ∧ W1 y ∧ W1 z ∧ W1 w)) ∧ ((nh ≤ 1000000 ∧ SmF gh (2 * nh)) ∧ (W1 xh ∧ W1 yh ∧ W1 zh ∧ W1 wh)) ∧ ((ny ≤ 1000000 ∧ SmF gy (2 * ny)) ∧ (W1 xy ∧ W1 yy ∧ W1 zy ∧ W1 wy)))⟩
   | none => .fail)
   | none => .fail)
   | none => .fail)
   | none => .fail)
   | none => .fail)
   | none => .fail)
   | none => .fail)
   | none => .fail)
   | none => .fail)
 | _ => .fail
theorem vc_pip1 (cl cw cv : Bool) (k : Int) (x y z w : Nat) (_ : Nm) (n : Nat) (_ _ _ : Nm) (clh cwh cvh : Bool) (kh : Int) (xh yh zh wh : Nat) (_ : Nm) (nh : Nat) (cly cwy cvy : Bool) (ky : Int) (xy yy zy wy : Nat) (_ : Nm) (ny : Nat) (_ : Nm)  (g : Nat → Nat) (gh : Nat → Nat) (gy : Nat → Nat) : runA GPM 9 [(6, .unr [⟨Nat, fun _ => ⟨71, [(0, .ptr 0 0), (1, .ptr 6 0), (42, .slcc 3 1), (43, .int .i64 1), (44, .int .i64 0)], [(0, ⟨false, 137, .cells [.ifc 157 (.ptr 1 0), .slcc 3 1], 0⟩), (1, ⟨false, 150, serC cl cw cv k x y z w 2 n, 0⟩), (2, ⟨false, 100, .flts .f64 (2 * n) g, 0⟩), (3, ⟨false, 106, .cells [.ifc 157 (.ptr 4 0)], 0⟩), (4, ⟨false, 150, serC clh cwh cvh kh xh yh zh wh 5 nh, 0⟩), (5, ⟨false, 100, .flts .f64 (2 * nh) gh, 0⟩), (6, ⟨false, 137, .cells [.ifc 157 (.ptr 7 0), .nils], 0⟩), (7, ⟨false, 150, serC cly cwy cvy ky xy yy zy wy 8 ny, 0⟩), (8, ⟨false, 100, .flts .f64 (2 * ny) gy, 0⟩)], 9⟩, fun _ => rirB (emp cly ny) (emp cl n) (mt4 xy yy zy wy x y z w) (fGt .f64 (arF x y z w) (arF xy yy zy wy)) (anyB (sIs g n (nsg cl n (wz g)) x y z w gy ny true) (nsg cly ny (wz gy))) (anyB (sIs gy ny (nsg cly ny (wz gy)) xy yy zy wy g n true) (nsg cl n (wz g))) = true, fun _ => 0⟩, ⟨Nat, fun _ => ⟨71, [(0, .ptr 0 0), (1, .ptr 6 0), (42, .slcc 3 1), (43, .int .i64 1), (44, .int .i64 1)], [(0, ⟨false, 137, .cells [.ifc 157 (.ptr 1 0), .slcc 3 1], 0⟩), (1, ⟨false, 150, serC cl cw cv k x y z w 2 n, 0⟩), (2, ⟨false, 100, .flts .f64 (2 * n) g, 0⟩), (3, ⟨false, 106, .cells [.ifc 157 (.ptr 4 0)], 0⟩), (4, ⟨false, 150, serC clh cwh cvh kh xh yh zh wh 5 nh, 0⟩), (5, ⟨false, 100, .flts .f64 (2 * nh) gh, 0⟩), (6, ⟨false, 137, .cells [.ifc 157 (.ptr 7 0), .nils], 0⟩), (7, ⟨false, 150, serC cly cwy cvy ky xy yy zy wy 8 ny, 0⟩), (8, ⟨false, 100, .flts .f64 (2 * ny) gy, 0⟩)], 9⟩, fun _ => (rirB (emp cly ny) (emp cl n) (mt4 xy yy zy wy x y z w) (fGt .f64 (arF x y z w) (arF xy yy zy wy)) (anyB (sIs g n (nsg cl n (wz g)) x y z w gy ny true) (nsg cly ny (wz gy))) (anyB (sIs gy ny (nsg cly ny (wz gy)) xy yy zy wy g n true) (nsg cl n (wz g))) = true ∧ rcrS gh nh (nsg clh nh (wz gh)) clh cwh cvh xh yh zh wh gy ny (nsg cly ny (wz gy)) cly xy yy zy wy false = false), fun _ => 0⟩]), (12, .unr [⟨Nat, fun _ => ⟨71, [(0, .ptr 0 0), (1, .ptr 6 0), (58, .nils), (59, .int .i64 0), (60, .int .i64 0)], [(0, ⟨false, 137, .cells [.ifc 157 (.ptr 1 0), .slcc 3 1], 0⟩), (1, ⟨false, 150, serC cl cw cv k x y z w 2 n, 0⟩), (2, ⟨false, 100, .flts .f64 (2 * n) g, 0⟩), (3, ⟨false, 106, .cells [.ifc 157 (.ptr 4 0)], 0⟩), (4, ⟨false, 150, serC clh cwh cvh kh xh yh zh wh 5 nh, 0⟩), (5, ⟨false, 100, .flts .f64 (2 * nh) gh, 0⟩), (6, ⟨false, 137, .cells [.ifc 157 (.ptr 7 0), .nils], 0⟩), (7, ⟨false, 150, serC cly cwy cvy ky xy yy zy wy 8 ny, 0⟩), (8, ⟨false, 100, .flts .f64 (2 * ny) gy, 0⟩)], 9⟩, fun _ => (rirB (emp cly ny) (emp cl n) (mt4 xy yy zy wy x y z w) (fGt .f64 (arF x y z w) (arF xy yy zy wy)) (anyB (sIs g n (nsg cl n (wz g)) x y z w gy ny true) (nsg cly ny (wz gy))) (anyB (sIs gy ny (nsg cly ny (wz gy)) xy yy zy wy g n true) (nsg cl n (wz g))) = true ∧ rcrS gh nh (nsg clh nh (wz gh)) clh cwh cvh xh yh zh wh gy ny (nsg cly ny (wz gy)) cly xy yy zy wy false = false), fun _ => 0⟩])] [] (codeOf Tryz.f208) (init Tryz.f208.ntmps [.ptr 0 0, .ptr 6 0] [(0, ⟨false, 137, .cells [.ifc 157 (.ptr 1 0), .slcc 3 1], 0⟩), (1, ⟨false, 150, serC cl cw cv k x y z w 2 n, 0⟩), (2, ⟨false, 100, .flts .f64 (2 * n) g, 0⟩), (3, ⟨false, 106, .cells [.ifc 157 (.ptr 4 0)], 0⟩), (4, ⟨false, 150, serC clh cwh cvh kh xh yh zh wh 5 nh, 0⟩), (5, ⟨false, 100, .flts .f64 (2 * nh) gh, 0⟩), (6, ⟨false, 137, .cells [.ifc 157 (.ptr 7 0), .nils], 0⟩), (7, ⟨false, 150, serC cly cwy cvy ky xy yy zy wy 8 ny, 0⟩), (8, ⟨false, 100, .flts .f64 (2 * ny) gy, 0⟩)] 9) (endK GPM.E.T Tryz.f208.results.toList fun S v => postP 9 ⟨[.ptr 0 0, .ptr 6 0], [(0, ⟨false, 137, .cells [.ifc 157 (.ptr 1 0), .slcc 3 1], 0⟩), (1, ⟨false, 150, serC cl cw cv k x y z w 2 n, 0⟩), (2, ⟨false, 100, .flts .f64 (2 * n) g, 0⟩), (3, ⟨false, 106, .cells [.ifc 157 (.ptr 4 0)], 0⟩), (4, ⟨false, 150, serC clh cwh cvh kh xh yh zh wh 5 nh, 0⟩), (5, ⟨false, 100, .flts .f64 (2 * nh) gh, 0⟩), (6, ⟨false, 137, .cells [.ifc 157 (.ptr 7 0), .nils], 0⟩), (7, ⟨false, 150, serC cly cwy cvy ky xy yy zy wy 8 ny, 0⟩), (8, ⟨false, 100, .flts .f64 (2 * ny) gy, 0⟩)], .bool ((rirB (emp cly ny) (emp cl n) (mt4 xy yy zy wy x y z w) (fGt .f64 (arF x y z w) (arF xy yy zy wy)) (anyB (sIs g n (nsg cl n (wz g)) x y z w gy ny true) (nsg cly ny (wz gy))) (anyB (sIs gy ny (nsg cly ny (wz gy)) xy yy zy wy g n true) (nsg cl n (wz g)))) && !(rcrS gh nh (nsg clh nh (wz gh)) clh cwh cvh xh yh zh wh gy ny (nsg cly ny (wz gy)) cly xy yy zy wy false)), [], [], some (2 * n = 2 * n ∧ 2 * nh = 2 * nh ∧ 2 * ny = 2 * ny ∧ ((n ≤ 1000000 ∧ SmF g (2 * n)) ∧ (W1 x ∧ W1 y ∧ W1 z ∧ W1 w)) ∧ ((nh ≤ 1000000 ∧ SmF gh (2 * nh)) ∧ (W1 xh ∧ W1 yh ∧ W1 zh ∧ W1 wh)) ∧ ((ny ≤ 1000000 ∧ SmF gy (2 * ny)) ∧ (W1 xy ∧ W1 yy ∧ W1 zy ∧ W1 wy)))⟩ S v) = (
(2 * ny = 2 * ny ∧ 2 * n = 2 * n ∧ ((ny ≤ 1000000 ∧ SmF gy (2 * ny)) ∧ W1 xy ∧ W1 yy ∧ W1 zy ∧ W1 wy) ∧ (n ≤
1000000 ∧ SmF g (2 * n)) ∧ W1 x ∧ W1 y ∧ W1 z ∧ W1 w) ∧ true = true ∧ ((!rirB (emp cly ny)
(emp cl n) (mt4 xy yy zy wy x y z w) (fGt .f64 (arF x y z w) (arF xy yy zy wy)) (anyB (sIs g n (nsg cl n
(wz g)) x y z w gy ny true) (nsg cly ny (wz gy))) (anyB (sIs gy ny (nsg cly ny (wz gy)) xy yy zy wy g n true)
(nsg cl n (wz g)))) = true → (rirB (emp cly ny) (emp cl n) (mt4 xy yy zy wy x y z w) (fGt .f64 (arF x y z w)
(arF xy yy zy wy)) (anyB (sIs g n (nsg cl n (wz g)) x y z w gy ny true) (nsg cly ny (wz gy))) (anyB
(sIs gy ny (nsg cly ny (wz gy)) xy yy zy wy g n true) (nsg cl n (wz g))) && !rcrS gh nh (nsg clh nh (wz
 gh)) clh cwh cvh xh yh zh wh gy ny (nsg cly ny (wz gy)) cly xy yy zy wy false) = false ∧ True) ∧ ((!rirB (emp cly ny) (emp cl n) (mt4 xy yy zy
 wy x y z w) (fGt .f64 (arF x y z w) (arF xy yy zy wy)) (anyB (sIs g n (nsg cl n (wz g)) x y z w gy ny true) (nsg cly
 ny (wz gy))) (anyB (sIs gy ny (nsg cly ny (wz gy)) xy yy zy wy g n true) (nsg cl n (wz g)))) = false → (∃ (_ : Nat),
 rirB (emp cly ny) (emp cl n) (mt4 xy yy zy wy x y z w) (fGt .f64 (arF x y z w) (arF xy yy zy wy)) (anyB
(sIs g n (nsg cl n (wz g)) x y z w gy ny true) (nsg cly ny (wz gy))) (anyB (sIs gy ny (nsg cly ny
(wz gy)) xy yy zy wy g n true) (nsg cl n (wz g))) = true ∧ ((True ∧ 0 = 0) ∧ (True ∧ 0 = 0) ∧ (True ∧ 1 = 1) ∧ (1 : Int) = 1 ∧ (0 : Int) =
(0 : Int) ∧ True) ∧ True ∧ ((True ∧ 0 = 0) ∧ (True ∧ 1 = 1) ∧ True) ∧ True ∧ (cl = cl ∧ cw = cw ∧ cv = cv ∧ k = k ∧ True ∧ x = x ∧ y = y ∧ z = z ∧ w = w ∧ (True ∧ n = n) ∧ True) ∧ True ∧ (2 * n ≤ 2 * n
∧ ∀ (i : Nat), i < 2 * n → g i = g i) ∧ True ∧ ((True ∧ 0 = 0) ∧ True) ∧ True ∧ (clh = clh ∧ cwh = cwh ∧ cvh = cvh ∧ kh = kh ∧ True ∧ xh = xh ∧ yh = yh ∧ zh = zh ∧ wh = wh ∧ (True ∧ nh = nh) ∧ True) ∧ True ∧ (2 * nh ≤
2 * nh ∧ ∀ (i : Nat), i < 2 * nh → gh i = gh i) ∧ True ∧ ((True ∧ 0 = 0) ∧ True ∧ True) ∧ True ∧ (cly = cly ∧ cwy = cwy ∧ cvy = cvy ∧ ky = ky ∧ True ∧ xy = xy ∧ yy = yy ∧ zy = zy ∧ wy = wy ∧ (True ∧ ny = ny) ∧ True) ∧
 True ∧ (2 * ny ≤ 2 * ny ∧ ∀ (i : Nat), i < 2 * ny → gy i = gy i) ∧ True) ∧ (∀ (_ : Nat), rirB (emp cly ny) (emp cl n) (mt4 xy yy zy wy x y z w) (fGt
.f64 (arF x y z w) (arF xy yy zy wy)) (anyB (sIs g n (nsg cl n (wz g)) x y z w gy ny true) (nsg cly ny (wz
 gy))) (anyB (sIs gy ny (nsg cly ny (wz gy)) xy yy zy wy g n true) (nsg cl n (wz g))) = true → (true = true → (((0 : Int) ≤ 0 ∧ (0 :
 Int) < (1 : Int)) ∧ True) ∧ (2 * nh = 2 * nh ∧ 2 * ny = 2 * ny ∧ (nh ≤ 1000000 ∧ SmF gh (2 * nh)) ∧ (ny ≤ 1000000 ∧ SmF gy (2 * ny)) ∧
 W1 xy ∧ W1 yy ∧ W1 zy ∧ W1 wy) ∧ (rcrS gh nh (nsg clh nh (wz gh)) clh cwh cvh xh yh zh wh gy ny (nsg cly
 ny (wz gy)) cly xy yy zy wy false = true → (rirB (emp cly ny) (emp cl n) (mt4 xy yy zy wy x y z w) (fGt .f64 (arF x y z w)
(arF xy yy zy wy)) (anyB (sIs g n (nsg cl n (wz g)) x y z w gy ny true) (nsg cly ny (wz gy))) (anyB
(sIs gy ny (nsg cly ny (wz gy)) xy yy zy wy g n true) (nsg cl n (wz g))) && !rcrS gh nh (nsg clh nh (wz
 gh)) clh cwh cvh xh yh zh wh gy ny (nsg cly ny (wz gy)) cly xy yy zy wy false) = false ∧ True) ∧ (rcrS gh nh (nsg clh nh (wz gh)) clh cwh cvh xh yh zh wh gy ny
(nsg cly ny (wz gy)) cly xy yy zy wy false = false → ∃ (_ : Nat), (rirB (emp cly ny) (emp cl n) (mt4 xy yy zy wy x y z w) (fGt .f64
(arF x y z w) (arF xy yy zy wy)) (anyB (sIs g n (nsg cl n (wz g)) x y z w gy ny true) (nsg cly ny (wz
 gy))) (anyB (sIs gy ny (nsg cly ny (wz gy)) xy yy zy wy g n true) (nsg cl n (wz g))) = true ∧ rcrS gh nh
(nsg clh nh (wz gh)) clh cwh cvh xh yh zh wh gy ny (nsg cly ny (wz gy)) cly xy yy zy wy false = false) ∧ ((True ∧ 0 = 0) ∧ (True ∧ 0 = 0) ∧ (True
∧ 1 = 1) ∧ (1 : Int) = 1 ∧ (1 : Int) = 1 ∧ True) ∧ True ∧ ((True ∧ 0 = 0) ∧ (True ∧ 1 = 1) ∧ True) ∧ True ∧ (cl = cl ∧ cw = cw ∧ cv = cv ∧ k = k ∧ True ∧ x = x ∧ y = y ∧ z = z ∧ w = w ∧
(True ∧ n = n) ∧ True) ∧ True ∧ (2 * n ≤ 2 * n ∧ ∀ (i : Nat), i < 2 * n → g i = g i) ∧ True ∧ ((True ∧ 0 = 0) ∧ True) ∧ True ∧ (clh = clh ∧ cwh = cwh ∧ cvh = cvh ∧ kh = kh ∧ True ∧ xh = xh ∧ yh = yh ∧ zh = zh ∧
 wh = wh ∧ (True ∧ nh = nh) ∧ True) ∧ True ∧ (2 * nh ≤ 2 * nh ∧ ∀ (i : Nat), i < 2 * nh → gh i = gh i) ∧ True ∧ ((True ∧ 0 = 0) ∧ True ∧ True) ∧ True ∧ (cly = cly ∧ cwy = cwy ∧ cvy = cvy ∧ ky = ky ∧ True ∧ xy =
 xy ∧ yy = yy ∧ zy = zy ∧ wy = wy ∧ (True ∧ ny = ny) ∧ True) ∧ True ∧ (2 * ny ≤ 2 * ny ∧ ∀ (i : Nat), i < 2 * ny → gy i = gy i) ∧ True)) ∧ (true = false → (∃ (_ : Nat), (rirB (emp cly ny)
(emp cl n) (mt4 xy yy zy wy x y z w) (fGt .f64 (arF x y z w) (arF xy yy zy wy)) (anyB (sIs g n (nsg cl n
(wz g)) x y z w gy ny true) (nsg cly ny (wz gy))) (anyB (sIs gy ny (nsg cly ny (wz gy)) xy yy zy wy g n true)
(nsg cl n (wz g))) = true ∧ rcrS gh nh (nsg clh nh (wz gh)) clh cwh cvh xh yh zh wh gy ny (nsg cly ny (wz gy)) cly xy yy zy
 wy false = false) ∧ ((True ∧ 0 = 0) ∧ (True ∧ 0 = 0) ∧ True ∧ (0 : Int) = 0 ∧ (0 : Int) = 0 ∧ True) ∧ True ∧ ((True ∧ 0 = 0) ∧ (True ∧ 1 = 1) ∧ True) ∧ True ∧ (cl = cl ∧
 cw = cw ∧ cv = cv ∧ k = k ∧ True ∧ x = x ∧ y = y ∧ z = z ∧ w = w ∧ (True ∧ n = n) ∧ True) ∧ True ∧ (2 * n ≤ 2 * n ∧ ∀ (i : Nat), i < 2 * n → g i = g i) ∧ True ∧ ((True ∧ 0 = 0) ∧ True) ∧ True ∧ (clh = clh ∧ cwh
= cwh ∧ cvh = cvh ∧ kh = kh ∧ True ∧ xh = xh ∧ yh = yh ∧ zh = zh ∧ wh = wh ∧ (True ∧ nh = nh) ∧ True) ∧ True ∧ (2 * nh ≤ 2 * nh ∧ ∀ (i : Nat), i < 2 * nh → gh i = gh i) ∧ True ∧ ((True ∧ 0 = 0) ∧ True ∧ True) ∧
 True ∧ (cly = cly ∧ cwy = cwy ∧ cvy = cvy ∧ ky = ky ∧ True ∧ xy = xy ∧ yy = yy ∧ zy = zy ∧ wy = wy ∧ (True ∧ ny = ny) ∧ True) ∧ True ∧ (2 * ny ≤ 2 * ny ∧ ∀ (i : Nat), i < 2 * ny → gy i = gy i) ∧ True) ∧ (∀ (_ : Nat),
 rirB (emp cly ny) (emp cl n) (mt4 xy yy zy wy x y z w) (fGt .f64 (arF x y z w) (arF xy yy zy wy)) (anyB
(sIs g n (nsg cl n (wz g)) x y z w gy ny true) (nsg cly ny (wz gy))) (anyB (sIs gy ny (nsg cly ny
(wz gy)) xy yy zy wy g n true) (nsg cl n (wz g))) = true ∧ rcrS gh nh (nsg clh nh (wz gh)) clh cwh cvh xh yh zh wh gy ny
(nsg cly ny (wz gy)) cly xy yy zy wy false = false → (false = true → False) ∧ (false = false → (rirB (emp cly ny) (emp cl n) (mt4 xy yy zy wy
 x y z w) (fGt .f64 (arF x y z w) (arF xy yy zy wy)) (anyB (sIs g n (nsg cl n (wz g)) x y z w gy ny true) (nsg cly ny
(wz gy))) (anyB (sIs gy ny (nsg cly ny (wz gy)) xy yy zy wy g n true) (nsg cl n (wz g))) && !rcrS gh nh
(nsg clh nh (wz gh)) clh cwh cvh xh yh zh wh gy ny (nsg cly ny (wz gy)) cly xy yy zy wy false) = true ∧ True)) ∧ True)) ∧ (∀ (_ : Nat), rirB
(emp cly ny) (emp cl n) (mt4 xy yy zy wy x y z w) (fGt .f64 (arF x y z w) (arF xy yy zy wy)) (anyB (sIs g n
(nsg cl n (wz g)) x y z w gy ny true) (nsg cly ny (wz gy))) (anyB (sIs gy ny (nsg cly ny (wz gy)) xy yy zy
 wy g n true) (nsg cl n (wz g))) = true ∧ rcrS gh nh (nsg clh nh (wz gh)) clh cwh cvh xh yh zh wh gy ny (nsg cly ny (wz gy))
 cly xy yy zy wy false = false → (false = true → (((0 : Int) ≤ 1 ∧ (1 : Int) < 1) ∧ True) ∧ False) ∧ (false = false → (∃ (_ : Nat), (rirB (emp cly ny) (emp cl n)
(mt4 xy yy zy wy x y z w) (fGt .f64 (arF x y z w) (arF xy yy zy wy)) (anyB (sIs g n (nsg cl n (wz g)) x y z w gy ny
 true) (nsg cly ny (wz gy))) (anyB (sIs gy ny (nsg cly ny (wz gy)) xy yy zy wy g n true) (nsg cl n (wz g)))
= true ∧ rcrS gh nh (nsg clh nh (wz gh)) clh cwh cvh xh yh zh wh gy ny (nsg cly ny (wz gy)) cly xy yy zy wy false = false) ∧ ((True ∧ 0 = 0) ∧
(True ∧ 0 = 0) ∧ True ∧ (0 : Int) = 0 ∧ (0 : Int) = 0 ∧ True) ∧ True ∧ ((True ∧ 0 = 0) ∧ (True ∧ 1 = 1) ∧ True) ∧ True ∧ (cl = cl ∧ cw = cw ∧ cv = cv ∧ k = k ∧ True ∧ x = x ∧ y = y ∧ z =
 z ∧ w = w ∧ (True ∧ n = n) ∧ True) ∧ True ∧ (2 * n ≤ 2 * n ∧ ∀ (i : Nat), i < 2 * n → g i = g i) ∧ True ∧ ((True ∧ 0 = 0) ∧ True) ∧ True ∧ (clh = clh ∧ cwh = cwh ∧ cvh = cvh ∧ kh = kh ∧ True ∧ xh = xh ∧ yh = yh
∧ zh = zh ∧ wh = wh ∧ (True ∧ nh = nh) ∧ True) ∧ True ∧ (2 * nh ≤ 2 * nh ∧ ∀ (i : Nat), i < 2 * nh → gh i = gh i) ∧ True ∧ ((True ∧ 0 = 0) ∧ True ∧ True) ∧ True ∧ (cly = cly ∧ cwy = cwy ∧ cvy = cvy ∧ ky = ky ∧
 True ∧ xy = xy ∧ yy = yy ∧ zy = zy ∧ wy = wy ∧ (True ∧ ny = ny) ∧ True) ∧ True ∧ (2 * ny ≤ 2 * ny ∧ ∀ (i : Nat), i < 2 * ny → gy i = gy i) ∧ True) ∧ (∀ (_ : Nat), rirB (emp cly ny)
(emp cl n) (mt4 xy yy zy wy x y z w) (fGt .f64 (arF x y z w) (arF xy yy zy wy)) (anyB (sIs g n (nsg cl n
(wz g)) x y z w gy ny true) (nsg cly ny (wz gy))) (anyB (sIs gy ny (nsg cly ny (wz gy)) xy yy zy wy g n true)
(nsg cl n (wz g))) = true ∧ rcrS gh nh (nsg clh nh (wz gh)) clh cwh cvh xh yh zh wh gy ny (nsg cly ny (wz gy)) cly xy yy zy
 wy false = false → (false = true → False) ∧ (false = false → (rirB (emp cly ny) (emp cl n) (mt4 xy yy zy wy x y z w) (fGt .f64 (arF x y z w)
(arF xy yy zy wy)) (anyB (sIs g n (nsg cl n (wz g)) x y z w gy ny true) (nsg cly ny (wz gy))) (anyB
(sIs gy ny (nsg cly ny (wz gy)) xy yy zy wy g n true) (nsg cl n (wz g))) && !rcrS gh nh (nsg clh nh (wz
 gh)) clh cwh cvh xh yh zh wh gy ny (nsg cly ny (wz gy)) cly xy yy zy wy false) = true ∧ True)) ∧ True)) ∧ True)) := by kernel_rfl
theorem pip1 : ConOk Tryz.prog 208 (conR pip1C) := by
 refine con_of_vc gPM Tryz.func208 rfl (by kernel_rfl) fun args => ?_
 unfold pip1C
 split
 · rename_i P Y
   intro o0
   show RdM.All _ (match po1 o0.c with | some (s, h) => _ | none => _) _
   split
   · rename_i s h hm0
     intro o1
     show RdM.All _ (match serOf o1.c with | some (cl, cw, cv, k, x, y, z, w, q, n) => _ | none => _) _
     split
     · rename_i cl cw cv k x y z w q n hm1
       intro o2
       show RdM.All _ (match fltsFrom .f64 o2.c with | some (m, g) => _ | none => _) _
       split
       · rename_i m2 g hm2
         intro o3
         show RdM.All _ (match ho1 o3.c with | some e => _ | none => _) _
         split
         · rename_i e hm3
           intro o4
           show RdM.All _ (match serOf o4.c with | some (clh, cwh, cvh, kh, xh, yh, zh, wh, qh, nh) => _ | none => _) _
           split
           · rename_i clh cwh cvh kh xh yh zh wh qh nh hm4
             intro o5
             show RdM.All _ (match fltsFrom .f64 o5.c with | some (m, g) => _ | none => _) _
             split
             · rename_i m5 gh hm5
               intro o6
               show RdM.All _ (match po0 o6.c with | some sy => _ | none => _) _
               split
               · rename_i sy hm6
                 intro o7
                 show RdM.All _ (match serOf o7.c with | some (cly, cwy, cvy, ky, xy, yy, zy, wy, qy, ny) => _ | none => _) _
                 split
                 · rename_i cly cwy cvy ky xy yy zy wy qy ny hm7
                   intro o8
                   show RdM.All _ (match fltsFrom .f64 o8.c with | some (m, g) => _ | none => _) _
                   split
                   · rename_i m8 gy hm8
                     intro ho
                     replace ho : m2 = 2 * n ∧ m5 = 2 * nh ∧ m8 = 2 * ny ∧ ((n ≤ 1000000 ∧ SmF g (2 * n)) ∧ (W1 x ∧ W1 y ∧ W1 z ∧ W1 w)) ∧ ((nh ≤ 1000000 ∧ SmF gh (2 * nh)) ∧ (W1 xh ∧ W1 yh ∧ W1 zh ∧ W1 wh)) ∧ ((ny ≤ 1000000 ∧ SmF gy (2 * ny)) ∧ (W1 xy ∧ W1 yy ∧ W1 zy ∧ W1 wy)) := ho
                     obtain ⟨hsz2, hsz5, hsz8, ho⟩ := ho
                     subst hsz2
                     subst hsz5
                     subst hsz8
                     refine ⟨?_, _, _, (vc_pip1 cl cw cv k x y z w q n s h e clh cwh cvh kh xh yh zh wh qh nh cly cwy cvy ky xy yy zy wy qy ny sy g gh gy).mpr ?_⟩
                     · refine okFlag_mk rfl ⟨?_, ⟨trivial, po1_spec hm0 (by simp [sgSig, fsts, nth, sameN_self]) (by simp [sgSig, fsts, nth, sameN_self]), ⟨trivial, serOf_spec hm1 (by simp [sgSig, fsts, nth, sameN_self]), ⟨trivial, (contR_flts hm2).1, ⟨trivial, ho1_spec hm3 (by simp [sgSig, fsts, nth, sameN_self]), ⟨trivial, serOf_spec hm4 (by simp [sgSig, fsts, nth, sameN_self]), ⟨trivial, (contR_flts hm5).1, ⟨trivial, po0_spec hm6 (by simp [sgSig, fsts, nth, sameN_self]), ⟨trivial, serOf_spec hm7 (by simp [sgSig, fsts, nth, sameN_self]), ⟨trivial, (contR_flts hm8).1, trivial⟩⟩⟩⟩⟩⟩⟩⟩⟩⟩
                       simp [eqvRL, eqvR, sgSig, fsts, nth, sameN_self]
                     · generalize hv : (rirB (emp cly ny) (emp cl n) (mt4 xy yy zy wy x y z w) (fGt .f64 (arF x y z w) (arF xy yy zy wy)) (anyB (sIs g n (nsg cl n (wz g)) x y z w gy ny true) (nsg cly ny (wz gy))) (anyB (sIs gy ny (nsg cly ny (wz gy)) xy yy zy wy g n true) (nsg cl n (wz g)))) = r
                       generalize ht : (rcrS gh nh (nsg clh nh (wz gh)) clh cwh cvh xh yh zh wh gy ny (nsg cly ny (wz gy)) cly xy yy zy wy false) = t
                       cases r <;> cases t <;> simp [ho]
                   · trivial
                 · trivial
               · trivial
             · trivial
           · trivial
         · trivial
       · trivial
     · trivial
   · trivial
 · trivial
def ppL79 (len : Nat) (g : Nat → Int) : Fam := ⟨Nat, fun i =>
 ⟨22, [(3, .slcc 1 i), (6, .slcc 0 len), (7, .int .i64 len), (8, .int .i64 i)], [(0, ⟨false, 28, .ints .i64 (2 * len) g, 0⟩), (1, ⟨true, 23, .ints .i64 (2 * i) g, 2⟩)], 2⟩, fun i => i ≤ len, fun i => len - i⟩
noncomputable def polyPtsC : List SV → RdM
 | [.slcc n len] => .read n fun o0 => (match intsFrom .i64 o0.c with
   | some (m0, g) => .ret ⟨[.slcc 0 len], [(0, ⟨false, 28, .ints .i64 m0 g, 0⟩)], .slcc 1 len, [], [(1, ⟨true, 23, .ints .i64 (2 * len) g, 2⟩)], some (m0 = 2 * len ∧ len ≤ 1000000)⟩
   | none => .fail)
 | _ => .fail
theorem vc_polyPts (len : Nat)  (g : Nat → Int) : runA G0 1 [(3, ppL79 len g)] [] (codeOf Tryz.f79) (init Tryz.f79.ntmps [.slcc 0 len] [(0, ⟨false, 28, .ints .i64 (2 * len) g, 0⟩)] 1) (endK G0.E.T Tryz.f79.results.toList fun S v => postP 1 ⟨[.slcc 0 len], [(0, ⟨false, 28, .ints .i64 (2 * len) g, 0⟩)], .slcc 1 len, [], [(1, ⟨true, 23, .ints .i64 (2 * len) g, 2⟩)], some (2 * len = 2 * len ∧ len ≤ 1000000)⟩ S v) = (
(∃ (i : Nat), i ≤ len ∧ (i = 0 ∧ (True ∧ len = len) ∧ (↑len : Int) = (↑len : Int) ∧ 0 = (↑i : Int) ∧ True) ∧ True ∧ (2 * len ≤ 2 * len ∧ ∀ (i : Nat), i < 2 * len → g i = g i) ∧ True ∧ 2 * i = 0
∧ True) ∧ ∀ (i : Nat), i ≤ len → (decide ((↑i : Int) < (↑len : Int)) = true → ((0 ≤ (↑i : Int) ∧ (↑i : Int) < (↑len : Int)) ∧ 1 ≤ 2 * len) ∧ 0 + Int.toNat (↑i : Int) * 2 + 2 ≤ 2 * len ∧ (2 * i = i * 2 ∧ (i + 1) * 16 ≤ 140737488355328 ∧ i + 1 ≤ 9223372036854775807) ∧ ∃ (i' : Nat), i' ≤ len ∧ len - i' < len - i ∧ ((True ∧ i + 1 = i') ∧ (True ∧ len = len) ∧ (↑len : Int) = (↑len
: Int) ∧ Go.IntKind.wrap .i64 ((↑i : Int) + 1) = (↑i' : Int) ∧ True) ∧ True ∧ (2 * len ≤ 2 * len ∧ ∀ (i : Nat), i < 2 * len → g i = g i) ∧ True ∧ (23 = 23 ∧ 2 = 2 ∧ 2 * i' ≤ 2 * i + List.length [g (0 + Int.toNat (↑i : Int) * 2), g (0 + Int.toNat (↑i : Int) * 2 + 1)] ∧ ∀ (i_1 : Nat), i_1 < 2 * i' → more (2 * i) g [g (0 + Int.toNat (↑i : Int) * 2), g (0 + Int.toNat (↑i : Int) * 2 + 1)] (0 : Int) i_1 = g i_1) ∧ True) ∧ (decide ((↑i : Int) < (↑len : Int)) = false → (True ∧ i = len) ∧ True ∧ (23 = 23 ∧ 2 = 2 ∧ 2 * len ≤ 2 * i ∧ ∀ (i : Nat), i < 2 * len → g i = g i) ∧ True)) := by kernel_rfl
theorem polyPts : ConOk Tryz.prog 79 (conR polyPtsC) := by
 refine con_of_vc g0 Tryz.func79 rfl (by kernel_rfl) fun args => ?_
 unfold polyPtsC
 split
 · rename_i n len
   intro o0
   show RdM.All _ (match intsFrom .i64 o0.c with | some (m, g) => _ | none => _) _
   split
   · rename_i m0 g hm0
     intro ho
     replace ho : m0 = 2 * len ∧ len ≤ 1000000 := ho
     obtain ⟨hsz0, ho⟩ := ho
     subst hsz0
     refine ⟨?_, _, _, (vc_polyPts len g).mpr ?_⟩
     · refine okFlag_mk rfl ⟨?_, ⟨trivial, (contR_ints hm0).1, trivial⟩⟩
       simp [eqvRL, eqvR, sgSig, fsts, nth, sameN_self]
     · refine ⟨⟨0, by simp⟩, fun i hi => ⟨fun h => ?_, fun h => ?_⟩⟩
       · have h := of_decide_eq_true h
         have e : 0 + (i : Int).toNat * 2 = 2 * i := by omega
         refine ⟨by omega, by omega, by omega, i + 1, by omega, by omega, ⟨⟨trivial, rfl⟩, ⟨trivial, rfl⟩, rfl, ?_, trivial⟩, trivial, ⟨Nat.le_refl _, fun _ _ => rfl⟩, trivial, ⟨rfl, rfl, ?_, ?_⟩, trivial⟩
         · rw [wrap64 (by omega) (by omega)]; omega
         · show 2 * (i + 1) ≤ 2 * i + 2
           omega
         · exact more_two (by rw [e]) (by rw [e])
       · have h := of_decide_eq_false h
         have : i = len := by omega
         subst this
         exact ⟨⟨trivial, rfl⟩, trivial, ⟨rfl, rfl, Nat.le_refl _, fun _ _ => rfl⟩, trivial⟩
   · trivial
 · trivial
noncomputable def GPS1 : Ctx := ⟨⟨tys, []⟩, [(79, conR polyPtsC)]⟩
theorem gPS1 : CtxOk Tryz.prog GPS1 := ⟨⟨tysOk, FlatsOk.nil⟩, GamOk.cons polyPts GamOk.nil, by kernel_rfl⟩
noncomputable def polyLnC : List SV → RdM
 | [.slcc n len] => .read n fun o0 => (match intsFrom .i64 o0.c with
   | some (m0, g) => .ret ⟨[.slcc 0 len], [(0, ⟨false, 28, .ints .i64 m0 g, 0⟩)], .agg [.int .i64 2, .slcc 1 len, .nils], [], [(1, ⟨true, 23, .ints .i64 (2 * len) g, 2⟩)], some (m0 = 2 * len ∧ len ≤ 1000000)⟩
   | none => .fail)
 | _ => .fail
theorem vc_polyLn (len : Nat)  (g : Nat → Int) : runA GPS1 1 [] [] (codeOf Tryz.f51) (init Tryz.f51.ntmps [.slcc 0 len] [(0, ⟨false, 28, .ints .i64 (2 * len) g, 0⟩)] 1) (endK GPS1.E.T Tryz.f51.results.toList fun S v => postP 1 ⟨[.slcc 0 len], [(0, ⟨false, 28, .ints .i64 (2 * len) g, 0⟩)], .agg [.int .i64 2, .slcc 1 len, .nils], [], [(1, ⟨true, 23, .ints .i64 (2 * len) g, 2⟩)], some (2 * len = 2 * len ∧ len ≤ 1000000)⟩ S v) = (
(2 * len = 2 * len ∧ len ≤ 1000000) ∧ ((2 : Int) = 2 ∧ (True ∧ len = len) ∧ True ∧ True) ∧ True ∧ (23 = 23 ∧ 2 = 2 ∧ 2 * len ≤ 2 * len ∧ ∀ (i : Nat), i < 2 * len
→ g i = g i) ∧ True) := by kernel_rfl
theorem polyLn : ConOk Tryz.prog 51 (conR polyLnC) := by
 refine con_of_vc gPS1 Tryz.func51 rfl (by kernel_rfl) fun args => ?_
 unfold polyLnC
 split
 · rename_i n len
   intro o0
   show RdM.All _ (match intsFrom .i64 o0.c with | some (m, g) => _ | none => _) _
   split
   · rename_i m0 g hm0
     intro ho
     replace ho : m0 = 2 * len ∧ len ≤ 1000000 := ho
     obtain ⟨hsz0, ho⟩ := ho
     subst hsz0
     refine ⟨?_, _, _, (vc_polyLn len g).mpr ?_⟩
     · refine okFlag_mk rfl ⟨?_, ⟨trivial, (contR_ints hm0).1, trivial⟩⟩
       simp [eqvRL, eqvR, sgSig, fsts, nth, sameN_self]
     · simp [ho]
   · trivial
 · trivial
def psF (len : Nat) (g : Nat → Int) (i k : Int) (hs hc : SV) (x : Heap) (m : Nat) : Fam := ⟨Nat, fun _ =>
 ⟨26, [(2, .ptr (m + 2) 0), (3, .ptr m 0), (11, hs), (12, .int .i64 k), (13, .int .i64 i)], (m, ⟨true, 39, .cells [.int .i64 3, .slcc (m + 1) len, hc], 0⟩) :: (m + 1, ⟨true, 23, .ints .i64 (2 * len) g, 2⟩) :: (m + 2, ⟨true, 39, .cells [.int .i64 0, .nils, .nils], 0⟩) :: x, m + 3 + x.length⟩, fun _ => True, fun _ => 0⟩
noncomputable def polySh0C : List SV → RdM
 | [.agg [.slcc n len, .nils]] => .read n fun o0 => (match intsFrom .i64 o0.c with
   | some (m0, g) => .ret ⟨[.agg [.slcc 0 len, .nils]], [(0, ⟨false, 28, .ints .i64 m0 g, 0⟩)], .agg [.int .i64 3, .slcc 1 len, .nils], [], [(1, ⟨true, 23, .ints .i64 (2 * len) g, 2⟩)], some (m0 = 2 * len ∧ len ≤ 1000000)⟩
   | none => .fail)
 | _ => .fail
theorem vc_polySh0 (len : Nat)  (g : Nat → Int) : runA GPS1 1 [(3, .unr [psF len g 0 0 .nils .nils [] 1])] [] (codeOf Tryz.f48) (init Tryz.f48.ntmps [.agg [.slcc 0 len, .nils]] [(0, ⟨false, 28, .ints .i64 (2 * len) g, 0⟩)] 1) (endK GPS1.E.T Tryz.f48.results.toList fun S v => postP 1 ⟨[.agg [.slcc 0 len, .nils]], [(0, ⟨false, 28, .ints .i64 (2 * len) g, 0⟩)], .agg [.int .i64 3, .slcc 1 len, .nils], [], [(1, ⟨true, 23, .ints .i64 (2 * len) g, 2⟩)], some (2 * len = 2 * len ∧ len ≤ 1000000)⟩ S v) = (
(2 * len = 2 * len ∧ len ≤ 1000000) ∧ (∃ (_ : Nat), True ∧ ((True ∧ 0 = 0) ∧ (True ∧ 0 = 0) ∧ True ∧ (0 : Int) = 0 ∧ (0 : Int) = 0 ∧ True) ∧ True ∧ (39 = 39 ∧ 0 = 0 ∧ (3 : Int) = 3 ∧ (True ∧ len = len) ∧ True ∧ True) ∧ True ∧ (23 = 23 ∧ 2 = 2 ∧ 2 * len ≤ 2 * len ∧ ∀ (i : Nat), i < 2 * len → g i = g i) ∧ True ∧ (39 = 39 ∧ 0 = 0 ∧ (0 : Int) = 0 ∧ True ∧ True ∧ True) ∧ True) ∧ (∀ (_ : Nat), True → (false = true → False) ∧ (false = false → ((3 : Int) = 3 ∧ (True ∧ len = len) ∧ True ∧ True) ∧ True ∧ (23 = 23 ∧ 2 = 2 ∧ 2 * len ≤ 2 * len ∧ ∀ (i : Nat), i < 2 * len → g i = g i) ∧ True)) ∧ True) := by kernel_rfl
theorem polySh0 : ConOk Tryz.prog 48 (conR polySh0C) := by
 refine con_of_vc gPS1 Tryz.func48 rfl (by kernel_rfl) fun args => ?_
 unfold polySh0C
 split
 · rename_i n len
   intro o0
   show RdM.All _ (match intsFrom .i64 o0.c with | some (m, g) => _ | none => _) _
   split
   · rename_i m0 g hm0
     intro ho
     replace ho : m0 = 2 * len ∧ len ≤ 1000000 := ho
     obtain ⟨hsz0, ho⟩ := ho
     subst hsz0
     refine ⟨?_, _, _, (vc_polySh0 len g).mpr ?_⟩
     · refine okFlag_mk rfl ⟨?_, ⟨trivial, (contR_ints hm0).1, trivial⟩⟩
       simp [eqvRL, eqvR, sgSig, fsts, nth, sameN_self]
     · simp [ho]
   · trivial
 · trivial
def ps1 (len hl : Nat) (g gh : Nat → Int) (i : Int) (hc : SV) (x : Heap) (m : Nat) : Fam := ⟨Nat, fun _ =>
 ⟨26, [(2, .ptr 5 0), (3, .ptr 3 0), (11, .slcc 1 1), (12, .int .i64 1), (13, .int .i64 i)], [(1, ⟨false, 26, .cells [.slcc 2 hl], 0⟩), (2, ⟨false, 28, .ints .i64 (2 * hl) gh, 0⟩), (3, ⟨true, 39, .cells [.int .i64 3, .slcc 4 len, hc], 0⟩), (4, ⟨true, 23, .ints .i64 (2 * len) g, 2⟩), (5, ⟨true, 39, .cells [.int .i64 0, .nils, .nils], 0⟩)] ++ x, m⟩, fun _ => True, fun _ => 0⟩
noncomputable def polySh1C : List SV → RdM
 | [.agg [.slcc n len, .slcc h 1]] => .read n fun o0 => (match intsFrom .i64 o0.c with
   | some (m0, g) => .read h fun o1 => (match holOf o1.c with
   | some (q, hl) => .read q fun o2 => (match intsFrom .i64 o2.c with
   | some (m2, gh) => .ret ⟨[.agg [.slcc 0 len, .slcc 1 1]], [(0, ⟨false, 28, .ints .i64 m0 g, 0⟩), (1, ⟨false, 26, .cells [.slcc 2 hl], 0⟩), (2, ⟨false, 28, .ints .i64 m2 gh, 0⟩)], .agg [.int .i64 3, .slcc 3 len, .slcc 4 1], [], [(3, ⟨true, 23, .ints .i64 (2 * len) g, 2⟩), (4, ⟨true, 25, .cells [.slcc 5 hl], 1⟩), (5, ⟨true, 23, .ints .i64 (2 * hl) gh, 2⟩)], some (m0 = 2 * len ∧ m2 = 2 * hl ∧ len ≤ 1000000 ∧ hl ≤ 1000000)⟩
   | none => .fail)
   | none => .fail)
   | none => .fail)
 | _ => .fail
theorem vc_polySh1 (len hl : Nat) (_ : Nm)  (g : Nat → Int) (gh : Nat → Int) : runA GPS1 3 [(3, .unr [ps1 len hl g gh 0 .nils [] 6, ps1 len hl g gh 1 (.slcc 6 1) [(6, ⟨true, 25, .cells [.slcc 7 hl], 1⟩), (7, ⟨true, 23, .ints .i64 (2 * hl) gh, 2⟩)] 8])] [] (codeOf Tryz.f48) (init Tryz.f48.ntmps [.agg [.slcc 0 len, .slcc 1 1]] [(0, ⟨false, 28, .ints .i64 (2 * len) g, 0⟩), (1, ⟨false, 26, .cells [.slcc 2 hl], 0⟩), (2, ⟨false, 28, .ints .i64 (2 * hl) gh, 0⟩)] 3) (endK GPS1.E.T Tryz.f48.results.toList fun S v => postP 3 ⟨[.agg [.slcc 0 len, .slcc 1 1]], [(0, ⟨false, 28, .ints .i64 (2 * len) g, 0⟩), (1, ⟨false, 26, .cells [.slcc 2 hl], 0⟩), (2, ⟨false, 28, .ints .i64 (2 * hl) gh, 0⟩)], .agg [.int .i64 3, .slcc 3 len, .slcc 4 1], [], [(3, ⟨true, 23, .ints .i64 (2 * len) g, 2⟩), (4, ⟨true, 25, .cells [.slcc 5 hl], 1⟩), (5, ⟨true, 23, .ints .i64 (2 * hl) gh, 2⟩)], some (2 * len = 2 * len ∧ 2 * hl = 2 * hl ∧ len ≤ 1000000 ∧ hl ≤ 1000000)⟩ S v) = (
(2 * len = 2 * len ∧ len ≤ 1000000) ∧ (∃ (_ : Nat), True ∧ ((True ∧ 0 = 0) ∧ (True ∧ 0 = 0) ∧ (True ∧ 1 = 1) ∧ (1 : Int) = 1 ∧ (0 : Int) = 0 ∧ True) ∧ True ∧
((True ∧ hl = hl) ∧ True) ∧ True ∧ (2 * hl ≤ 2 * hl ∧ ∀ (i : Nat), i < 2 * hl → gh i = gh i) ∧ True ∧ (39 = 39 ∧ 0 = 0 ∧ (3 : Int) = 3 ∧ (True ∧ len = len) ∧ True ∧ True) ∧ True ∧ (23 = 23 ∧ 2 = 2 ∧ 2 * len ≤ 2 * len ∧ ∀ (i : Nat), i < 2 * len → g i = g i) ∧ True ∧ (39 = 39 ∧ 0 = 0 ∧ (0 : Int) = 0 ∧ True ∧ True ∧ True) ∧ True) ∧ (∀ (_ :
 Nat), True → (true = true → (((0 : Int) ≤ 0 ∧ (0 : Int) < 1) ∧ True) ∧ (2 * hl = 2 * hl ∧ hl ≤ 1000000) ∧ true = true ∧ ∃ (_ : Nat), True ∧ ((True ∧ 0 = 0) ∧ (True ∧ 0 = 0) ∧
(True ∧ 1 = 1) ∧ (1 : Int) = 1 ∧ (1 : Int) = 1 ∧ True) ∧ True ∧ ((True ∧ hl = hl) ∧ True) ∧ True ∧ (2 * hl ≤ 2 * hl ∧ ∀ (i : Nat), i < 2 * hl → gh i = gh i) ∧ True ∧ (39 = 39 ∧
0 = 0 ∧ (3 : Int) = 3 ∧ (True ∧ len = len) ∧ (True ∧ 1 = 1) ∧ True) ∧ True ∧ (23 = 23 ∧ 2 = 2 ∧ 2 * len ≤ 2 * len ∧ ∀ (i : Nat), i < 2 * len → g i = g i)
∧ True ∧ (39 = 39 ∧ 0 = 0 ∧ (0 : Int) = 0 ∧ True ∧ True ∧ True) ∧ True ∧ (25 = 25 ∧ 1 = 1 ∧ (True ∧ hl = hl) ∧ True) ∧ True ∧ (23 = 23 ∧ 2 = 2 ∧
2 * hl ≤ 2 * hl ∧ ∀ (i : Nat), i < 2 * hl → gh i = gh i) ∧ True) ∧ (true = false → ((3 : Int) = 3 ∧ (True ∧ len = len) ∧ 1 = 0 ∧ True) ∧ True ∧ (23 = 23 ∧ 2 = 2 ∧ 2 * len ≤ 2 * len ∧ ∀ (i : Nat), i < 2 * len → g i = g i) ∧ True ∧ List.length [SV.slcc 5 hl] = 0 ∧ True ∧ 2 * hl = 0 ∧ True)) ∧ (∀ (_ : Nat), True → (false = true → (((0 : Int) ≤ 1 ∧ (1 :
 Int) < (1 : Int)) ∧ True) ∧ False) ∧ (false = false → ((3 : Int) = 3 ∧ (True ∧ len = len) ∧ (True ∧ 1 = 1) ∧ True) ∧ True ∧ (23 = 23 ∧ 2 = 2 ∧ 2 * len ≤ 2 * len ∧ ∀ (i : Nat), i
< 2 * len → g i = g i) ∧ True ∧ (25 = 25 ∧ 1 = 1 ∧ (True ∧ hl = hl) ∧ True) ∧ True ∧ (23 = 23 ∧ 2 = 2 ∧ 2 * hl ≤ 2 * hl ∧ ∀ (i : Nat), i < 2 * hl → gh i =
 gh i) ∧ True)) ∧ True) := by kernel_rfl
theorem polySh1 : ConOk Tryz.prog 48 (conR polySh1C) := by
 refine con_of_vc gPS1 Tryz.func48 rfl (by kernel_rfl) fun args => ?_
 unfold polySh1C
 split
 · rename_i n len h
   intro o0
   show RdM.All _ (match intsFrom .i64 o0.c with | some (m, g) => _ | none => _) _
   split
   · rename_i m0 g hm0
     intro o1
     show RdM.All _ (match holOf o1.c with | some (q, hl) => _ | none => _) _
     split
     · rename_i q hl hm1
       intro o2
       show RdM.All _ (match intsFrom .i64 o2.c with | some (m, g) => _ | none => _) _
       split
       · rename_i m2 gh hm2
         intro ho
         replace ho : m0 = 2 * len ∧ m2 = 2 * hl ∧ len ≤ 1000000 ∧ hl ≤ 1000000 := ho
         obtain ⟨hsz0, hsz2, ho⟩ := ho
         subst hsz0
         subst hsz2
         refine ⟨?_, _, _, (vc_polySh1 len hl q g gh).mpr ?_⟩
         · refine okFlag_mk rfl ⟨?_, ⟨trivial, (contR_ints hm0).1, ⟨trivial, holOf_spec hm1 (by simp [sgSig, fsts, nth, sameN_self]), ⟨trivial, (contR_ints hm2).1, trivial⟩⟩⟩⟩
           simp [eqvRL, eqvR, sgSig, fsts, nth, sameN_self]
         · simp [ho]
       · trivial
     · trivial
   · trivial
 · trivial
def npIs0 : List SV → Bool
 | [_, .nils, _] => true
 | _ => false
noncomputable def GSP : Ctx := ⟨⟨tys, []⟩, [(74, conR ptsC), (91, swC npIs0 (conR newPoly0C) (conR newPoly1C))]⟩
theorem gSP : CtxOk Tryz.prog GSP := ⟨⟨tysOk, FlatsOk.nil⟩, GamOk.cons pts (GamOk.cons (ConOk.sw newPoly0 newPoly1) GamOk.nil), by kernel_rfl⟩
def sp9 (len : Nat) (g : Nat → Int) (km : Int × Int) : Fam := ⟨Nat, fun _ =>
 ⟨53, [(1, .ptr 1 0), (2, .ptr 2 0), (5, .nils), (30, .nils), (31, .int .i64 0), (32, .int .i64 0)], [(0, ⟨false, 23, .ints .i64 (2 * len) g, 0⟩), (1, ⟨false, 148, optC km.1 km.2, 0⟩), (2, ⟨true, 39, .cells [.int .i64 3, .slcc 0 len, .nils], 0⟩)], 3⟩, fun _ => True, fun _ => 0⟩
noncomputable def shaped30C : List SV → RdM
 | [.agg [.int .i64 3, .slcc n len, .nils], .ptr o 0] => .read n fun o0 => (match intsFrom .i64 o0.c with
   | some (m0, g) => .read o fun o1 => (match optOf o1.c with
   | some (km, mm) => .ret ⟨[.agg [.int .i64 3, .slcc 0 len, .nils], .ptr 1 0], [(0, ⟨false, 23, .ints .i64 m0 g, 0⟩), (1, ⟨false, 148, optC km mm, 0⟩)], .ifc 121 (.ptr 2 0), [], [(2, ⟨true, 137, .cells [.ifc 157 (.ptr 3 0), .nils], 0⟩), (3, ⟨true, 150, .cells (rectS len true (fI g) 4 0), 0⟩), (4, ⟨true, 100, .flts .f64 (2 * len) (fI g), 2⟩)], some (m0 = 2 * len ∧ km = 0 ∧ len ≤ 1000000 ∧ (ppBig len true = true → ppOk (fI g) len))⟩
   | none => .fail)
   | none => .fail)
 | _ => .fail
theorem vc_shaped30 (len : Nat) (km mm : Int)  (g : Nat → Int) : runA GSP 2 [(9, .unr [sp9 len g (km, mm)])] [] (codeOf Tryz.f63) (init Tryz.f63.ntmps [.agg [.int .i64 3, .slcc 0 len, .nils], .ptr 1 0] [(0, ⟨false, 23, .ints .i64 (2 * len) g, 0⟩), (1, ⟨false, 148, optC km mm, 0⟩)] 2) (endK GSP.E.T Tryz.f63.results.toList fun S v => postP 2 ⟨[.agg [.int .i64 3, .slcc 0 len, .nils], .ptr 1 0], [(0, ⟨false, 23, .ints .i64 (2 * len) g, 0⟩), (1, ⟨false, 148, optC km mm, 0⟩)], .ifc 121 (.ptr 2 0), [], [(2, ⟨true, 137, .cells [.ifc 157 (.ptr 3 0), .nils], 0⟩), (3, ⟨true, 150, .cells (rectS len true (fI g) 4 0), 0⟩), (4, ⟨true, 100, .flts .f64 (2 * len) (fI g), 2⟩)], some (2 * len = 2 * len ∧ km = 0 ∧ len ≤ 1000000 ∧ (ppBig len true = true → ppOk (fI g) len))⟩ S v) = (
(false = true → False) ∧ (false = false → (false = true → (2 * len = 2 * len ∧ len ≤ 1000000) ∧ False) ∧ (false = false → (true = true → (∃ (_ : Nat), True ∧ ((True ∧ 0 = 0) ∧ (True ∧ 0 = 0) ∧
 True ∧ True ∧ (0 : Int) = 0 ∧ (0 : Int) = 0 ∧ True) ∧ True ∧ (2 * len ≤ 2 * len ∧ ∀ (i : Nat), i < 2 * len → g i = g i) ∧ True ∧ (km = km ∧ mm = mm ∧ True) ∧ True ∧ (39 = 39 ∧ 0 = 0 ∧ (3 : Int) = 3 ∧ (True ∧ len = len) ∧ True ∧ True) ∧ True) ∧ (∀ (_ : Nat), True → (false = true → False) ∧ (false = false → (2 * len = 2 * len ∧ len ≤ 1000000) ∧ (2 * len = 2 * len ∧ km = (0 :
 Int) ∧ len ≤ 1000000 ∧ (ppBig len true = true → ppOk (fI g) len)) ∧ (True ∧ 0 = 0) ∧ True ∧ (137 = 137 ∧ 0 = 0 ∧ (True ∧ 0 = 0) ∧ True ∧ True) ∧ True ∧ (150 = 150 ∧ 0 = 0 ∧ true = true ∧ (ppBig len true && fGt .f64 (cwF (fI g) len len) 0) = (ppBig len
 true && fGt .f64 (cwF (fI g) len len) 0) ∧ (ppBig len true && !(dcF (fI g) len len).2) = (ppBig len true && !Prod.snd
(dcF (fI g) len len)) ∧ (0 : Int) = 0 ∧ True ∧ pick (ppBig len true) (rlo (fI g) 0 len) = pick
(ppBig len true) (rlo (fI g) 0 len) ∧ pick (ppBig len true) (rlo (fI g) 1 len) = pick
(ppBig len true) (rlo (fI g) 1 len) ∧ pick (ppBig len true) (rhi (fI g) 0 len) = pick
(ppBig len true) (rhi (fI g) 0 len) ∧ pick (ppBig len true) (rhi (fI g) 1 len) = pick
(ppBig len true) (rhi (fI g) 1 len) ∧ (True ∧ len = len) ∧ True) ∧ True ∧ (100 = 100 ∧ 2 = 2 ∧ 2 * len ≤ 2 * len ∧ ∀ (i : Nat), i < 2 * len → fI g i = fI g i) ∧ True)) ∧ True) ∧ (true = false → False)))) := by kernel_rfl
theorem shaped30 : ConOk Tryz.prog 63 (conR shaped30C) := by
 refine con_of_vc gSP Tryz.func63 rfl (by kernel_rfl) fun args => ?_
 unfold shaped30C
 split
 · rename_i n len o
   intro o0
   show RdM.All _ (match intsFrom .i64 o0.c with | some (m, g) => _ | none => _) _
   split
   · rename_i m0 g hm0
     intro o1
     show RdM.All _ (match optOf o1.c with | some (km, mm) => _ | none => _) _
     split
     · rename_i km mm hm1
       intro ho
       replace ho : m0 = 2 * len ∧ km = 0 ∧ len ≤ 1000000 ∧ (ppBig len true = true → ppOk (fI g) len) := ho
       obtain ⟨hsz0, ho⟩ := ho
       subst hsz0
       refine ⟨?_, _, _, (vc_shaped30 len km mm g).mpr ?_⟩
       · refine okFlag_mk rfl ⟨?_, ⟨trivial, (contR_ints hm0).1, ⟨trivial, optOf_spec hm1, trivial⟩⟩⟩
         simp [eqvRL, eqvR, kEq_self, sgSig, fsts, nth, sameN_self]
       · obtain ⟨hk, hl, hok⟩ := ho
         simp [hk, hl]
         exact hok
     · trivial
   · trivial
 · trivial
def sp1 (len hl : Nat) (g gh : Nat → Int) (km : Int × Int) (i : Int) (t5 : SV) (x : Heap) (m : Nat) : Fam := ⟨Nat, fun _ =>
 ⟨53, [(1, .ptr 3 0), (2, .ptr 4 0), (5, t5), (30, .slcc 1 1), (31, .int .i64 1), (32, .int .i64 i)], [(0, ⟨false, 23, .ints .i64 (2 * len) g, 0⟩), (1, ⟨false, 25, .cells [.slcc 2 hl], 0⟩), (2, ⟨false, 23, .ints .i64 (2 * hl) gh, 0⟩), (3, ⟨false, 148, optC km.1 km.2, 0⟩), (4, ⟨true, 39, .cells [.int .i64 3, .slcc 0 len, .slcc 1 1], 0⟩)] ++ x, m⟩, fun _ => True, fun _ => 0⟩
noncomputable def shaped31C : List SV → RdM
 | [.agg [.int .i64 3, .slcc n len, .slcc h 1], .ptr o 0] => .read n fun o0 => (match intsFrom .i64 o0.c with
   | some (m0, g) => .read h fun o1 => (match holOf o1.c with
   | some (q, hl) => .read q fun o2 => (match intsFrom .i64 o2.c with
   | some (m2, gh) => .read o fun o3 => (match optOf o3.c with
   | some (km, mm) => .ret ⟨[.agg [.int .i64 3, .slcc 0 len, .slcc 1 1], .ptr 3 0], [(0, ⟨false, 23, .ints .i64 m0 g, 0⟩), (1, ⟨false, 25, .cells [.slcc 2 hl], 0⟩), (2, ⟨false, 23, .ints .i64 m2 gh, 0⟩), (3, ⟨false, 148, optC km mm, 0⟩)], .ifc 121 (.ptr 4 0), [], [(4, ⟨true, 137, .cells [.ifc 157 (.ptr 6 0), .slcc 5 1], 0⟩), (5, ⟨true, 106, .cells [.ifc 157 (.ptr 8 0)], 1⟩), (6, ⟨true, 150, .cells (rectS len true (fI g) 7 0), 0⟩), (7, ⟨true, 100, .flts .f64 (2 * len) (fI g), 2⟩), (8, ⟨true, 150, .cells (rectS hl true (fI gh) 9 0), 0⟩), (9, ⟨true, 100, .flts .f64 (2 * hl) (fI gh), 2⟩)], some (m0 = 2 * len ∧ m2 = 2 * hl ∧ km = 0 ∧ (len ≤ 1000000 ∧ (ppBig len true = true → ppOk (fI g) len)) ∧ (hl ≤ 1000000 ∧ (ppBig hl true = true → ppOk (fI gh) hl)))⟩
   | none => .fail)
   | none => .fail)
   | none => .fail)
   | none => .fail)
 | _ => .fail
theorem vc_shaped31 (len hl : Nat) (km mm : Int) (_ : Nm)  (g : Nat → Int) (gh : Nat → Int) : runA GSP 4 [(9, .unr [sp1 len hl g gh (km, mm) 0 .nils [] 5, sp1 len hl g gh (km, mm) 1 (.slcc 5 1) [(5, ⟨true, 118, .cells [.slcc 6 hl], 1⟩), (6, ⟨true, 100, .flts .f64 (2 * hl) (fI gh), 2⟩)] 7])] [] (codeOf Tryz.f63) (init Tryz.f63.ntmps [.agg [.int .i64 3, .slcc 0 len, .slcc 1 1], .ptr 3 0] [(0, ⟨false, 23, .ints .i64 (2 * len) g, 0⟩), (1, ⟨false, 25, .cells [.slcc 2 hl], 0⟩), (2, ⟨false, 23, .ints .i64 (2 * hl) gh, 0⟩), (3, ⟨false, 148, optC km mm, 0⟩)] 4) (endK GSP.E.T Tryz.f63.results.toList fun S v => postP 4 ⟨[.agg [.int .i64 3, .slcc 0 len, .slcc 1 1], .ptr 3 0], [(0, ⟨false, 23, .ints .i64 (2 * len) g, 0⟩), (1, ⟨false, 25, .cells [.slcc 2 hl], 0⟩), (2, ⟨false, 23, .ints .i64 (2 * hl) gh, 0⟩), (3, ⟨false, 148, optC km mm, 0⟩)], .ifc 121 (.ptr 4 0), [], [(4, ⟨true, 137, .cells [.ifc 157 (.ptr 6 0), .slcc 5 1], 0⟩), (5, ⟨true, 106, .cells [.ifc 157 (.ptr 8 0)], 1⟩), (6, ⟨true, 150, .cells (rectS len true (fI g) 7 0), 0⟩), (7, ⟨true, 100, .flts .f64 (2 * len) (fI g), 2⟩), (8, ⟨true, 150, .cells (rectS hl true (fI gh) 9 0), 0⟩), (9, ⟨true, 100, .flts .f64 (2 * hl) (fI gh), 2⟩)], some (2 * len = 2 * len ∧ 2 * hl = 2 * hl ∧ km = 0 ∧ (len ≤ 1000000 ∧ (ppBig len true = true → ppOk (fI g) len)) ∧ (hl ≤ 1000000 ∧ (ppBig hl true = true → ppOk (fI gh) hl)))⟩ S v) = (
(false = true → False) ∧ (false = false → (false = true → (2 * len = 2 * len ∧ len ≤ 1000000) ∧ False) ∧ (false = false → (true = true → (∃ (_ : Nat), True ∧ ((True ∧ 0 = 0) ∧ (True ∧ 0 = 0) ∧
 True ∧ (True ∧ 1 = 1) ∧ (1 : Int) = 1 ∧ (0 : Int) = 0 ∧ True) ∧ True ∧ (2 * len ≤ 2 * len ∧ ∀ (i : Nat), i < 2 * len → g i = g i) ∧ True ∧ ((True ∧ hl = hl) ∧ True) ∧ True ∧ (2 * hl ≤ 2 * hl ∧ ∀ (i : Nat), i < 2 * hl → gh i = gh i) ∧ True ∧ (km = km ∧ mm = mm ∧ True) ∧ True ∧ (39 = 39 ∧ 0 = 0 ∧ (3 : Int) = 3 ∧ (True ∧ len = len) ∧ (True ∧ 1 = 1) ∧ True) ∧ True) ∧
(∀ (_ : Nat), True → (true = true → (((0 : Int) ≤ 0 ∧ (0 : Int) < 1) ∧ True) ∧ (2 * hl = 2 * hl ∧ hl ≤ 1000000) ∧ ∃ (_ : Nat), True ∧ ((True ∧ 0 = 0) ∧ (True ∧ 0 = 0) ∧ (True ∧
1 = 1) ∧ (True ∧ 1 = 1) ∧ (1 : Int) = 1 ∧ (1 : Int) = 1 ∧ True) ∧ True ∧ (2 * len ≤ 2 * len ∧ ∀ (i : Nat), i < 2 * len → g i = g i) ∧ True ∧ ((True ∧ hl = hl) ∧ True) ∧ True ∧
(2 * hl ≤ 2 * hl ∧ ∀ (i : Nat), i < 2 * hl → gh i = gh i) ∧ True ∧ (km = km ∧ mm = mm ∧ True) ∧ True ∧ (39 = 39 ∧ 0 = 0 ∧ (3 : Int) = 3 ∧ (True ∧ len = len) ∧ (True ∧ 1 = 1) ∧ True) ∧ True ∧ (118 = 118 ∧ 1 = 1 ∧ (True ∧ hl = hl) ∧ True) ∧ True ∧ (100 = 100 ∧ 2 = 2 ∧ 2 * hl ≤ 2 * hl ∧ ∀ (i : Nat), i < 2 * hl →
 fI gh i = fI gh i) ∧ True) ∧ (true = false → (2 * len = 2 * len ∧ len ≤ 1000000) ∧ (2 * len = 2 * len ∧ km = (0 : Int) ∧ len ≤ 1000000 ∧ (ppBig len
 true = true → ppOk (fI g) len)) ∧ (True ∧ 0 = 0) ∧ True ∧ (137 = 137 ∧ 0 = 0 ∧ (True ∧ 0 = 0) ∧ 1 = 0 ∧ True) ∧ True ∧ 1 = 0 ∧ True ∧ (150 = 150 ∧ 0 = 0 ∧ true = true ∧ (ppBig len true && fGt .f64 (cwF (fI g) len len) 0) = (ppBig len true &&
 fGt .f64 (cwF (fI g) len len) 0) ∧ (ppBig len true && !(dcF (fI g) len len).2) = (ppBig len true && !Prod.snd
(dcF (fI g) len len)) ∧ (0 : Int) = 0 ∧ True ∧ pick (ppBig len true) (rlo (fI g) 0 len) = pick
(ppBig len true) (rlo (fI g) 0 len) ∧ pick (ppBig len true) (rlo (fI g) 1 len) = pick
(ppBig len true) (rlo (fI g) 1 len) ∧ pick (ppBig len true) (rhi (fI g) 0 len) = pick
(ppBig len true) (rhi (fI g) 0 len) ∧ pick (ppBig len true) (rhi (fI g) 1 len) = pick
(ppBig len true) (rhi (fI g) 1 len) ∧ (True ∧ len = len) ∧ True) ∧ True ∧ (100 = 100 ∧ 2 = 2 ∧ 2 * len ≤ 2 * len ∧ ∀ (i : Nat), i < 2 * len → fI g i = fI g i) ∧ True ∧ List.length (rectS hl true (fI gh) 9 (0 : Int)) = 0 ∧ True ∧ 2 * hl = 0 ∧ True)) ∧ (∀ (_ : Nat), True →
(false = true → (((0 : Int) ≤ 1 ∧ (1 : Int) < 1) ∧ True) ∧ False) ∧ (false = false → (2 * len = 2 * len ∧ len ≤ 1000000) ∧ (2 * len = 2 * len ∧ 2 * hl = 2 * hl ∧ km = (0 : Int) ∧
(len ≤ 1000000 ∧ (ppBig len true = true → ppOk (fI g) len)) ∧ hl ≤ 1000000 ∧ (ppBig hl true = true → ppOk (fI gh) hl)) ∧ (True
∧ 0 = 0) ∧ True ∧ (137 = 137 ∧ 0 = 0 ∧ (True ∧ 0 = 0) ∧ (True ∧ 1 = 1) ∧ True) ∧ True ∧ (106 = 106 ∧ 1 = 1 ∧ (True ∧ 0 = 0) ∧ True) ∧ True ∧ (150 = 150 ∧ 0 = 0 ∧ true = true ∧ (ppBig len true && fGt .f64 (cwF (fI g) len len) 0) = (ppBig len true &&
 fGt .f64 (cwF (fI g) len len) 0) ∧ (ppBig len true && !(dcF (fI g) len len).2) = (ppBig len true && !Prod.snd
(dcF (fI g) len len)) ∧ (0 : Int) = 0 ∧ True ∧ pick (ppBig len true) (rlo (fI g) 0 len) = pick
(ppBig len true) (rlo (fI g) 0 len) ∧ pick (ppBig len true) (rlo (fI g) 1 len) = pick
(ppBig len true) (rlo (fI g) 1 len) ∧ pick (ppBig len true) (rhi (fI g) 0 len) = pick
(ppBig len true) (rhi (fI g) 0 len) ∧ pick (ppBig len true) (rhi (fI g) 1 len) = pick
(ppBig len true) (rhi (fI g) 1 len) ∧ (True ∧ len = len) ∧ True) ∧ True ∧ (100 = 100 ∧ 2 = 2 ∧ 2 * len ≤ 2 * len ∧ ∀ (i : Nat), i < 2 * len → fI g i = fI g i) ∧ True ∧ (150 = 150 ∧ 0 = 0 ∧ true = true ∧ (ppBig hl true && fGt .f64 (cwF (fI gh) hl hl)
0) = (ppBig hl true && fGt .f64 (cwF (fI gh) hl hl) 0) ∧ (ppBig hl true && !(dcF (fI gh) hl hl).2) =
(ppBig hl true && !(dcF (fI gh) hl hl).2) ∧ (0 : Int) = 0 ∧ True ∧ pick (ppBig hl true) (rlo (fI gh) 0 hl) = pick (ppBig hl true) (rlo (fI gh) 0 hl) ∧ pick (ppBig hl true) (rlo (fI gh) 1
 hl) = pick (ppBig hl true) (rlo (fI gh) 1 hl) ∧ pick (ppBig hl true) (rhi (fI gh) 0 hl) =
 pick (ppBig hl true) (rhi (fI gh) 0 hl) ∧ pick (ppBig hl true) (rhi (fI gh) 1 hl) =
 pick (ppBig hl true) (rhi (fI gh) 1 hl) ∧ (True ∧ hl = hl) ∧ True) ∧ True ∧ (100 = 100 ∧ 2 = 2 ∧ 2 * hl ≤ 2 * hl ∧ ∀ (i :
 Nat), i < 2 * hl → fI gh i = fI gh i) ∧ True)) ∧ True) ∧ (true = false → False)))) := by kernel_rfl
theorem shaped31 : ConOk Tryz.prog 63 (conR shaped31C) := by
 refine con_of_vc gSP Tryz.func63 rfl (by kernel_rfl) fun args => ?_
 unfold shaped31C
 split
 · rename_i n len h o
   intro o0
   show RdM.All _ (match intsFrom .i64 o0.c with | some (m, g) => _ | none => _) _
   split
   · rename_i m0 g hm0
     intro o1
     show RdM.All _ (match holOf o1.c with | some (q, hl) => _ | none => _) _
     split
     · rename_i q hl hm1
       intro o2
       show RdM.All _ (match intsFrom .i64 o2.c with | some (m, g) => _ | none => _) _
       split
       · rename_i m2 gh hm2
         intro o3
         show RdM.All _ (match optOf o3.c with | some (km, mm) => _ | none => _) _
         split
         · rename_i km mm hm3
           intro ho
           replace ho : m0 = 2 * len ∧ m2 = 2 * hl ∧ km = 0 ∧ (len ≤ 1000000 ∧ (ppBig len true = true → ppOk (fI g) len)) ∧ (hl ≤ 1000000 ∧ (ppBig hl true = true → ppOk (fI gh) hl)) := ho
           obtain ⟨hsz0, hsz2, ho⟩ := ho
           subst hsz0
           subst hsz2
           refine ⟨?_, _, _, (vc_shaped31 len hl km mm q g gh).mpr ?_⟩
           · refine okFlag_mk rfl ⟨?_, ⟨trivial, (contR_ints hm0).1, ⟨trivial, holOf_spec hm1 (by simp [sgSig, fsts, nth, sameN_self]), ⟨trivial, (contR_ints hm2).1, ⟨trivial, optOf_spec hm3, trivial⟩⟩⟩⟩⟩
             simp [eqvRL, eqvR, kEq_self, sgSig, fsts, nth, sameN_self]
           · obtain ⟨hk, ⟨h1, h2⟩, h3, h4⟩ := ho
             simp [hk, h1, h3]
             exact ⟨h2, h4⟩
         · trivial
       · trivial
     · trivial
   · trivial
 · trivial
end Go.Proofs.Tryz.Sx
