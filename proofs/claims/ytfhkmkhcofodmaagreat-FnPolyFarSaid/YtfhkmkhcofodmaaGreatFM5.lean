/- Parts of a proof, in order: what each says stands at its head. No conditions. -/
import Derived.Test.YtfhkmkhcofodmaaGreatFM4
namespace Go.Proofs.Tryz.Sx
open Go Go.Sx Go.Proofs Go.Fl Go.Geo
set_option maxRecDepth 100000
def crn (g : Nat → Int) (len : Nat) (i : Int) (k : Nat) : Int := if i < len then g (2 * i.toNat + k) else 0
noncomputable def cornerC : List SV → RdM
 | [.agg [.int .i64 k, .slcc n len, .nils], .int .i64 i] => .read n fun o0 => (match intsFrom .i64 o0.c with
   | some (m0, g) => .ret ⟨[.agg [.int .i64 k, .slcc 0 len, .nils], .int .i64 i], [(0, ⟨false, 23, .ints .i64 m0 g, 0⟩)], .agg [.int .i64 (crn g len i 0), .int .i64 (crn g len i 1)], [], [], some (m0 = 2 * len ∧ 0 ≤ i)⟩
   | none => .fail)
 | _ => .fail
theorem vc_corner (k : Int) (len : Nat) (i : Int)  (g : Nat → Int) : runA G0 1 [] [] (codeOf Tryz.f72) (init Tryz.f72.ntmps [.agg [.int .i64 k, .slcc 0 len, .nils], .int .i64 i] [(0, ⟨false, 23, .ints .i64 (2 * len) g, 0⟩)] 1) (endK G0.E.T Tryz.f72.results.toList fun S v => postP 1 ⟨[.agg [.int .i64 k, .slcc 0 len, .nils], .int .i64 i], [(0, ⟨false, 23, .ints .i64 (2 * len) g, 0⟩)], .agg [.int .i64 (crn g len i 0), .int .i64 (crn g len i 1)], [], [], some (2 * len = 2 * len ∧ 0 ≤ i)⟩ S v) = (
(decide (i < (↑len : Int)) = true → (((0 : Int) ≤ i ∧ i < (↑len : Int)) ∧ 1 ≤ 2 * len) ∧ 0 + Int.toNat i * 2 + 2 ≤ 2 * len ∧ (g (0 + Int.toNat i * 2) = crn g len i 0 ∧ g (0 + Int.toNat i * 2 + 1) = crn g len i 1 ∧ True) ∧ True) ∧ (decide (i < (↑len : Int)) = false → ((0 : Int) = crn g len i 0 ∧ (0 : Int) = crn g len
 i 1 ∧ True) ∧ True)) := by kernel_rfl
theorem corner : ConOk Tryz.prog 72 (conR cornerC) := by
 refine con_of_vc g0 Tryz.func72 rfl (by kernel_rfl) fun args => ?_
 unfold cornerC
 split
 · rename_i k n len i
   intro o0
   show RdM.All _ (match intsFrom .i64 o0.c with | some (m, g) => _ | none => _) _
   split
   · rename_i m0 g hm0
     intro ho
     replace ho : m0 = 2 * len ∧ 0 ≤ i := ho
     obtain ⟨hsz0, ho⟩ := ho
     subst hsz0
     refine ⟨?_, _, _, (vc_corner k len i g).mpr ?_⟩
     · refine okFlag_mk rfl ⟨?_, ⟨trivial, (contR_ints hm0).1, trivial⟩⟩
       simp [eqvRL, eqvR, kEq_self, sgSig, fsts, nth, sameN_self]
     · have e : 0 + i.toNat * 2 = 2 * i.toNat := by omega
       refine ⟨fun h => ?_, fun h => ?_⟩
       · have h := of_decide_eq_true h
         rw [e]
         simp [crn, h]
         omega
       · have h := of_decide_eq_false h
         simp [crn, h]
   · trivial
 · trivial
noncomputable def GSH : Ctx := ⟨⟨tys, []⟩, [(72, conR cornerC), (75, pureCon ptF), (68, pureCon mkRectF), (74, conR ptsC), (73, conR newLineC)]⟩
theorem gSH : CtxOk Tryz.prog GSH := ⟨⟨tysOk, FlatsOk.nil⟩, GamOk.cons corner (GamOk.cons (.pure pt) (GamOk.cons (.pure mkRect) (GamOk.cons pts (GamOk.cons newLine GamOk.nil)))), by kernel_rfl⟩
noncomputable def shaped2C : List SV → RdM
 | [.agg [.int .i64 2, .slcc n len, .nils], .ptr o 0] => .read n fun o0 => (match intsFrom .i64 o0.c with
   | some (m0, g) => .read o fun o1 => (match optOf o1.c with
   | some (km, mm) => .ret ⟨[.agg [.int .i64 2, .slcc 0 len, .nils], .ptr 1 0], [(0, ⟨false, 23, .ints .i64 m0 g, 0⟩), (1, ⟨false, 148, optC km mm, 0⟩)], .ifc 116 (.ptr 2 0), [], [(2, ⟨true, 152, .cells (rectS len false (fI g) 3 0), 0⟩), (3, ⟨true, 100, .flts .f64 (2 * len) (fI g), 2⟩)], some (m0 = 2 * len ∧ km = 0 ∧ len ≤ 1000000 ∧ (ppBig len false = true → ppOk (fI g) len))⟩
   | none => .fail)
   | none => .fail)
 | _ => .fail
theorem vc_shaped2 (len : Nat) (km mm : Int)  (g : Nat → Int) : runA GSH 2 [] [] (codeOf Tryz.f63) (init Tryz.f63.ntmps [.agg [.int .i64 2, .slcc 0 len, .nils], .ptr 1 0] [(0, ⟨false, 23, .ints .i64 (2 * len) g, 0⟩), (1, ⟨false, 148, optC km mm, 0⟩)] 2) (endK GSH.E.T Tryz.f63.results.toList fun S v => postP 2 ⟨[.agg [.int .i64 2, .slcc 0 len, .nils], .ptr 1 0], [(0, ⟨false, 23, .ints .i64 (2 * len) g, 0⟩), (1, ⟨false, 148, optC km mm, 0⟩)], .ifc 116 (.ptr 2 0), [], [(2, ⟨true, 152, .cells (rectS len false (fI g) 3 0), 0⟩), (3, ⟨true, 100, .flts .f64 (2 * len) (fI g), 2⟩)], some (2 * len = 2 * len ∧ km = 0 ∧ len ≤ 1000000 ∧ (ppBig len false = true → ppOk (fI g) len))⟩ S v) = (
(false = true → (2 * len = 2 * len ∧ (0 : Int) ≤ 0) ∧ (2 * len = 2 * len ∧ (0 : Int) ≤ 1) ∧ true = true ∧ False ∧ True ∧ List.length (rectS len false (fI g) 3
(0 : Int)) = 0 ∧ True ∧ 2 * len = 0 ∧ True) ∧ (false = false → (true = true → (2 * len = 2 * len ∧ len ≤ 1000000) ∧ (2 * len = 2 * len ∧ km = (0 : Int) ∧ len ≤ 1000000 ∧
(ppBig len false = true → ppOk (fI g) len)) ∧ (True ∧ 0 = 0) ∧ True ∧ (152 = 152 ∧ 0 = 0 ∧ false = false ∧ (ppBig len false &&
 fGt .f64 (cwF (fI g) len len) 0) = (ppBig len false && fGt .f64 (cwF (fI g) len len) 0) ∧ (ppBig len false &&
!(dcF (fI g) len len).2) = (ppBig len false && !(dcF (fI g) len len).2) ∧ (0 : Int) = 0 ∧ True ∧ pick
(ppBig len false) (rlo (fI g) 0 len) = pick (ppBig len false) (rlo (fI g) 0 len) ∧ pick
(ppBig len false) (rlo (fI g) 1 len) = pick (ppBig len false) (rlo (fI g) 1 len) ∧ pick
(ppBig len false) (rhi (fI g) 0 len) = pick (ppBig len false) (rhi (fI g) 0 len) ∧ pick
(ppBig len false) (rhi (fI g) 1 len) = pick (ppBig len false) (rhi (fI g) 1 len) ∧ (True ∧ len = len) ∧
 True) ∧ True ∧ (100 = 100 ∧ 2 = 2 ∧ 2 * len ≤ 2 * len ∧ ∀ (i : Nat), i < 2 * len → fI g i = fI g i) ∧ True) ∧ (true = false → (false = true → False) ∧ (false
= false → (2 * len = 2 * len ∧ (0 : Int) ≤ 0) ∧ False ∧ True ∧ List.length (rectS len false (fI g) 3 (0 : Int)) = 0 ∧ True ∧ 2 * len = 0 ∧ True)))) := by kernel_rfl
theorem shaped2 : ConOk Tryz.prog 63 (conR shaped2C) := by
 refine con_of_vc gSH Tryz.func63 rfl (by kernel_rfl) fun args => ?_
 unfold shaped2C
 split
 · rename_i n len o
   intro o0
   show RdM.All _ (match intsFrom .i64 o0.c with | some (m, g) => _ | none => _) _
   split
   · rename_i m0 g hm0
     intro o1
     show RdM.All _ (match optOf o1.c with | some (km, mm) => _ | none => _) _
     split
     · rename_i km mm hm1
       intro ho
       replace ho : m0 = 2 * len ∧ km = 0 ∧ len ≤ 1000000 ∧ (ppBig len false = true → ppOk (fI g) len) := ho
       obtain ⟨hsz0, ho⟩ := ho
       subst hsz0
       refine ⟨?_, _, _, (vc_shaped2 len km mm g).mpr ?_⟩
       · refine okFlag_mk rfl ⟨?_, ⟨trivial, (contR_ints hm0).1, ⟨trivial, optOf_spec hm1, trivial⟩⟩⟩
         simp [eqvRL, eqvR, kEq_self, sgSig, fsts, nth, sameN_self]
       · obtain ⟨hk, hl, hok⟩ := ho
         simp [hk, hl]
         exact hok
     · trivial
   · trivial
 · trivial
noncomputable def GM2 : Ctx := ⟨⟨tys, []⟩, [(63, conR shaped2C), (64, conR optsC), (84, conR lMoveC), (83, conR plainC)]⟩
theorem gM2 : CtxOk Tryz.prog GM2 := ⟨⟨tysOk, FlatsOk.nil⟩, GamOk.cons shaped2 (GamOk.cons opts (GamOk.cons lMove (GamOk.cons plain GamOk.nil))), by kernel_rfl⟩
def mvG (g : Nat → Int) (len : Nat) (dx dy : Int) : Nat → Nat := mvI (fI g) (ofI .f64 dx) (ofI .f64 dy) len
noncomputable def moved2C : List SV → RdM
 | [.agg [.int .i64 2, .slcc n len, .nils], .int .i64 dx, .int .i64 dy] => .read n fun o0 => (match intsFrom .i64 o0.c with
   | some (m0, g) => .ret ⟨[.agg [.int .i64 2, .slcc 0 len, .nils], .int .i64 dx, .int .i64 dy], [(0, ⟨false, 23, .ints .i64 m0 g, 0⟩)], .agg [.int .i64 2, .slcc 1 len, .nils], [], [(1, ⟨true, 23, .ints .i64 (2 * len) (wI (mvG g len dx dy)), 2⟩)], some (m0 = 2 * len ∧ len < 64 ∧ (ppBig len false = true → ppOk (fI g) len) ∧ (ppBig len false = true → ppOk (mvG g len dx dy) len) ∧ (∀ j, j < 2 * len → fok .add .f64 (fI g j) (if j % 2 = 0 then ofI .f64 dx else ofI .f64 dy)) ∧ (∀ j, j < 2 * len → toIok .f64 (mvG g len dx dy j) .i64))⟩
   | none => .fail)
 | _ => .fail
theorem vc_moved2 (len : Nat) (dx dy : Int)  (g : Nat → Int) : runA GM2 1 [] [] (codeOf Tryz.f52) (init Tryz.f52.ntmps [.agg [.int .i64 2, .slcc 0 len, .nils], .int .i64 dx, .int .i64 dy] [(0, ⟨false, 23, .ints .i64 (2 * len) g, 0⟩)] 1) (endK GM2.E.T Tryz.f52.results.toList fun S v => postP 1 ⟨[.agg [.int .i64 2, .slcc 0 len, .nils], .int .i64 dx, .int .i64 dy], [(0, ⟨false, 23, .ints .i64 (2 * len) g, 0⟩)], .agg [.int .i64 2, .slcc 1 len, .nils], [], [(1, ⟨true, 23, .ints .i64 (2 * len) (wI (mvG g len dx dy)), 2⟩)], some (2 * len = 2 * len ∧ len < 64 ∧ (ppBig len false = true → ppOk (fI g) len) ∧ (ppBig len false = true → ppOk (mvG g len dx dy) len) ∧ (∀ j, j < 2 * len → fok .add .f64 (fI g j) (if j % 2 = 0 then ofI .f64 dx else ofI .f64 dy)) ∧ (∀ j, j < 2 * len → toIok .f64 (mvG g len dx dy j) .i64))⟩ S v) = (
 True ∧ (2 * len = 2 * len ∧ (0 : Int) = 0 ∧ len ≤ 1000000 ∧ (ppBig len false = true → ppOk (fI g) len)) ∧ true = true ∧ (2 * len = 2 * len ∧ len <
64 ∧ (∀ (j : Nat), j < 2 * len → fok BinOp.add .f64 (fI g j) (if j % 2 = 0 then ofI .f64 dx else ofI .f64 dy)) ∧ (ppBig len false = true → ppOk
(mvI (fI g) (ofI .f64 dx) (ofI .f64 dy) len) len)) ∧ (2 * len = 2 * len ∧ len ≤ 1000000 ∧ ∀ (j : Nat), j < 2 * len → toIok .f64 (mvI
(fI g) (ofI .f64 dx) (ofI .f64 dy) len j) .i64) ∧ ((2 : Int) = 2 ∧ (True ∧ len = len) ∧ True ∧ True) ∧ True ∧ (23 = 23 ∧ 2 = 2 ∧ 2 * len ≤ 2 * len ∧ ∀ (i : Nat), i
< 2 * len → wI (mvI (fI g) (ofI .f64 dx) (ofI .f64 dy) len) i = wI (mvG g len dx dy) i) ∧ True) := by kernel_rfl
theorem moved2 : ConOk Tryz.prog 52 (conR moved2C) := by
 refine con_of_vc gM2 Tryz.func52 rfl (by kernel_rfl) fun args => ?_
 unfold moved2C
 split
 · rename_i n len dx dy
   intro o0
   show RdM.All _ (match intsFrom .i64 o0.c with | some (m, g) => _ | none => _) _
   split
   · rename_i m0 g hm0
     intro ho
     replace ho : m0 = 2 * len ∧ len < 64 ∧ (ppBig len false = true → ppOk (fI g) len) ∧ (ppBig len false = true → ppOk (mvG g len dx dy) len) ∧ (∀ j, j < 2 * len → fok .add .f64 (fI g j) (if j % 2 = 0 then ofI .f64 dx else ofI .f64 dy)) ∧ (∀ j, j < 2 * len → toIok .f64 (mvG g len dx dy j) .i64) := ho
     obtain ⟨hsz0, ho⟩ := ho
     subst hsz0
     refine ⟨?_, _, _, (vc_moved2 len dx dy g).mpr ?_⟩
     · refine okFlag_mk rfl ⟨?_, ⟨trivial, (contR_ints hm0).1, trivial⟩⟩
       simp [eqvRL, eqvR, kEq_self, sgSig, fsts, nth, sameN_self]
     · unfold mvG at ho ⊢
       obtain ⟨h1, h2, h3, h4, h5⟩ := ho
       have hl : len ≤ 1000000 := by omega
       simp only [h1, hl, true_and, and_true, implies_true, Nat.le_refl]
       exact ⟨h2, ⟨h4, h3⟩, h5⟩
   · trivial
 · trivial
theorem fi {n : Int} (h : small n) : FI (ofI .f64 n) n := FI_ofInt (by unfold small at h; omega)
theorem fop_of {op : BinOp} {x y r : Nat} (h : floatBits op .f64 x y = some r) : fok op .f64 x y ∧ fop op .f64 x y = r := by
 unfold fok fop
 rw [h]; exact ⟨rfl, rfl⟩
theorem mul_of {x y : Nat} {a b : Int} (hx : FI x a) (hy : FI y b) (h : (a * b).natAbs < 2 ^ 53) : fok .mul .f64 x y ∧ FI (fop .mul .f64 x y) (a * b) := by
 obtain ⟨r, h1, h2⟩ := FI_mul hx hy h
 obtain ⟨h3, h4⟩ := fop_of (op := .mul) h1
 exact ⟨h3, by rw [h4]; exact h2⟩
end Go.Proofs.Tryz.Sx

namespace Go.Fl
open Go.Sx Ieee
structure Rnd (P K E : Nat) : Prop where
 up : 2 * (K * 2 ^ E) ≤ 2 * P + 2 ^ E
 dn : 2 * P ≤ 2 * (K * 2 ^ E) + 2 ^ E
 lo : E = 0 ∨ 2 ^ 52 * 2 ^ E ≤ P
 hi : P < 2 ^ 53 * 2 ^ E
 tie : 2 * (K * 2 ^ E) = 2 * P + 2 ^ E → K % 2 = 0
theorem round_spec (neg : Bool) {mag : Nat} (hm : mag ≠ 0) {place : Int} (hp : -1074 ≤ place) :
   Rnd (mag * 2 ^ (place + 1074).toNat) (keptOf neg mag place) (last mag place + 1074).toNat := by
 have hl1 := Nat.log2_self_le hm
 have hl2 : mag < 2 ^ (mag.log2 + 1) := Nat.lt_log2_self
 have hLdef : last mag place = max (place + mag.log2 - 52) (-1074) := rfl
 have hhi : mag * 2 ^ (place + 1074).toNat < 2 ^ 53 * 2 ^ (last mag place + 1074).toNat := by
   apply Nat.lt_of_lt_of_le (Nat.mul_lt_mul_of_pos_right hl2 (Nat.two_pow_pos _))
   rw [← Nat.pow_add, ← Nat.pow_add]
   exact Nat.pow_le_pow_right (by decide) (by omega)
 have hlo : (last mag place + 1074).toNat = 0 ∨ 2 ^ 52 * 2 ^ (last mag place + 1074).toNat ≤ mag * 2 ^ (place + 1074).toNat := by
   by_cases h : place + mag.log2 - 52 ≤ -1074
   · left; omega
   · right
     apply Nat.le_trans _ (Nat.mul_le_mul_right _ hl1)
     rw [← Nat.pow_add, ← Nat.pow_add]
     exact Nat.pow_le_pow_right (by decide) (by omega)
 by_cases h : last mag place ≤ place
 · have e1 : (last mag place - place).toNat = 0 := by omega
   have hk : keptOf neg mag place = mag * 2 ^ (place - last mag place).toNat := by
     unfold keptOf
     rw [e1, Nat.shiftLeft_eq]
     have := cut_exact neg (mag * 2 ^ (place - last mag place).toNat) 0
     rwa [Nat.pow_zero, Nat.mul_one] at this
   have he : keptOf neg mag place * 2 ^ (last mag place + 1074).toNat = mag * 2 ^ (place + 1074).toNat := by
     rw [hk, Nat.mul_assoc, ← Nat.pow_add]
     congr 2; omega
   have hpos : 0 < 2 ^ (last mag place + 1074).toNat := Nat.two_pow_pos _
   refine ⟨?_, ?_, hlo, hhi, ?_⟩ <;> rw [he] <;> generalize 2 ^ (last mag place + 1074).toNat = g at * <;> generalize mag * 2 ^ (place + 1074).toNat = p at * <;> omega
 · have e1 : (place - last mag place).toNat = 0 := by omega
   have hk : keptOf neg mag place = Toward.even.cut neg mag (last mag place - place).toNat := by
     unfold keptOf
     rw [e1, Nat.shiftLeft_eq, Nat.pow_zero, Nat.mul_one]
   have eE : (last mag place + 1074).toNat = (last mag place - place).toNat + (place + 1074).toNat := by omega
   obtain ⟨h1, h2⟩ := cut_err neg mag (last mag place - place).toNat
   have h3 := cut_tie neg mag (last mag place - place).toNat
   rw [← hk] at h1 h2 h3
   have hq : 0 < 2 ^ (place + 1074).toNat := Nat.two_pow_pos _
   refine ⟨?_, ?_, hlo, hhi, ?_⟩
   · rw [eE, Nat.pow_add]
     have := Nat.mul_le_mul_right (2 ^ (place + 1074).toNat) h1
     rw [Nat.add_mul] at this
     calc 2 * (keptOf neg mag place * (2 ^ (last mag place - place).toNat * 2 ^ (place + 1074).toNat)) = 2 * (keptOf neg mag place * 2 ^ (last mag place - place).toNat) * 2 ^ (place + 1074).toNat := by ac_rfl
       _ ≤ _ := this
       _ = _ := by rw [Nat.mul_assoc]
   · rw [eE, Nat.pow_add]
     have := Nat.mul_le_mul_right (2 ^ (place + 1074).toNat) h2
     rw [Nat.add_mul] at this
     calc 2 * (mag * 2 ^ (place + 1074).toNat) = 2 * mag * 2 ^ (place + 1074).toNat := by rw [Nat.mul_assoc]
       _ ≤ _ := this
       _ = _ := by ac_rfl
   · intro ht
     apply h3
     right
     rw [eE, Nat.pow_add] at ht
     apply Nat.eq_of_mul_eq_mul_right hq
     rw [Nat.add_mul]
     calc 2 * mag * 2 ^ (place + 1074).toNat + 2 ^ (last mag place - place).toNat * 2 ^ (place + 1074).toNat = 2 * (mag * 2 ^ (place + 1074).toNat) + 2 ^ (last mag place - place).toNat * 2 ^ (place + 1074).toNat := by rw [Nat.mul_assoc]
       _ = _ := ht.symm
       _ = _ := by ac_rfl
def E2 : Nat := 1022
theorem U1_E2 : U1 = 52 + E2 := rfl
theorem aux1 {z u x : Nat} (h1 : 2 ^ 53 * z ≤ 2 ^ 53 * u + u) (hu : u = 2 ^ 52 * x) : 2 * z ≤ 2 * u + x := by omega
theorem aux2 {v p z u x : Nat} (hup : 2 * v ≤ 2 * p + x) (h7 : u + x ≤ v) (h3 : p ≤ z) (h : 2 * z ≤ 2 * u + x) : 2 * v = 2 * p + x ∧ v = u + x := by omega
theorem aux3 {v p z u x e : Nat} (hup : 2 * v ≤ 2 * p + e) (h7 : u + e ≤ v) (_ : p ≤ z) (_ : 2 * z ≤ 2 * u + x) (_ : 2 ^ 52 * e ≤ p) (hhi : p < 2 ^ 53 * e) (h8 : 2 * e ≤ x) (hu : u = 2 ^ 52 * x) : False := by omega
theorem inv_le {a b Y k F K E : Nat} (hY : Y = k * 2 ^ F) (hd : DivSpec k F 1 b (2 ^ U1)) (_ : 0 < b) (hb : b ≤ 2 ^ 44) (hr : Rnd (a * Y) K E) : K * 2 ^ E ≤ 2 ^ U1 ↔ a ≤ b := by
 have hU : U1 = 1074 := rfl
 have h1 : 2 ^ 53 * (Y * b) ≤ 2 ^ 53 * 2 ^ U1 + 2 ^ U1 := by
   have hup := hd.up
   have hbl := hd.bl
   rw [Nat.one_mul] at hup hbl
   have e : 2 * k * (2 ^ F * b) = 2 * (Y * b) := by rw [hY]; ac_rfl
   rw [e] at hup
   generalize 2 ^ F * b = g at *
   generalize Y * b = z at *
   generalize 2 ^ U1 = u at *
   omega
 have h2 : 2 ^ 53 * 2 ^ U1 ≤ 2 ^ 53 * (Y * b) + 2 ^ U1 := by
   have hdn := hd.dn
   have hbl := hd.bl
   rw [Nat.one_mul] at hdn hbl
   have e : 2 * k * (2 ^ F * b) = 2 * (Y * b) := by rw [hY]; ac_rfl
   rw [e] at hdn
   generalize 2 ^ F * b = g at *
   generalize Y * b = z at *
   generalize 2 ^ U1 = u at *
   omega
 have hu22 : 2 ^ U1 = 2 ^ 52 * 2 ^ E2 := by rw [← Nat.pow_add, ← U1_E2]
 have hx2 : 0 < 2 ^ E2 := Nat.two_pow_pos _
 have hE2d : E2 = 1022 := rfl
 constructor
 · intro hle
   rcases Nat.lt_or_ge b a with hgt | hge
   · exfalso
     have h3 : Y * b + Y ≤ a * Y := by
       calc Y * b + Y = (b + 1) * Y := by rw [Nat.add_mul, Nat.one_mul, Nat.mul_comm]
         _ ≤ a * Y := Nat.mul_le_mul_right _ hgt
     have h4 : 2 ^ U1 ≤ 2 ^ 45 * Y := by
       have : Y * b ≤ Y * 2 ^ 44 := Nat.mul_le_mul_left _ hb
       generalize 2 ^ U1 = u at *
       generalize Y * b = z at *
       omega
     have hE : E ≤ E2 := by
       rcases Nat.lt_or_ge E2 E with hc | hc
       · exfalso
         have hdn := hr.dn
         rcases hr.lo with h0 | h0
         · omega
         · have h5 : 2 ^ (E2 + 1) ≤ 2 ^ E := Nat.pow_le_pow_right (by decide) hc
           have h6 : 2 ^ (E2 + 1) = 2 * 2 ^ E2 := by rw [← Nat.pow_succ']
           generalize 2 ^ (E2 + 1) = x3 at *
           generalize 2 ^ E2 = x2 at *
           generalize 2 ^ E = e at *
           generalize K * e = v at *
           generalize a * Y = p at *
           rw [hu22] at hle
           omega
       · exact hc
     have hdn := hr.dn
     have h5 : 2 ^ E ≤ 2 ^ E2 := Nat.pow_le_pow_right (by decide) hE
     generalize 2 ^ E2 = x2 at *
     generalize 2 ^ U1 = u at *
     generalize 2 ^ E = e at *
     generalize K * e = v at *
     generalize a * Y = p at *
     generalize Y * b = z at *
     omega
   · exact hge
 · intro hab
   have h3 : a * Y ≤ Y * b := by rw [Nat.mul_comm]; exact Nat.mul_le_mul_left _ hab
   have hup := hr.up
   by_cases hE0 : E = 0
   · subst hE0
     rw [Nat.pow_zero, Nat.mul_one] at hup ⊢
     have hhi := hr.hi
     rw [Nat.pow_zero, Nat.mul_one] at hhi
     have : 2 ^ 54 ≤ 2 ^ U1 := Nat.pow_le_pow_right (by decide) (by omega)
     generalize 2 ^ U1 = u at *
     generalize a * Y = p at *
     omega
   · have hlo : 2 ^ 52 * 2 ^ E ≤ a * Y := by rcases hr.lo with h | h; exact absurd h hE0; exact h
     have hE : E ≤ E2 := by
       rcases Nat.lt_or_ge E2 E with hc | hc
       · exfalso
         have h5 : 2 ^ (E2 + 1) ≤ 2 ^ E := Nat.pow_le_pow_right (by decide) hc
         have h6 : 2 ^ (E2 + 1) = 2 * 2 ^ E2 := by rw [← Nat.pow_succ']
         rw [hu22] at h1
         generalize 2 ^ (E2 + 1) = x3 at *
         generalize 2 ^ E2 = x2 at *
         generalize 2 ^ E = e at *
         generalize a * Y = p at *
         generalize Y * b = z at *
         omega
       · exact hc
     have hm : 2 ^ U1 = 2 ^ (U1 - E) * 2 ^ E := by rw [← Nat.pow_add, Nat.sub_add_cancel (by omega)]
     have hK : K ≤ 2 ^ (U1 - E) := by
       rcases Nat.lt_or_ge (2 ^ (U1 - E)) K with hc | hc
       · exfalso
         have h7 : (2 ^ (U1 - E) + 1) * 2 ^ E ≤ K * 2 ^ E := Nat.mul_le_mul_right _ hc
         rw [Nat.add_mul, Nat.one_mul, ← hm] at h7
         by_cases hE2 : E = E2
         · subst hE2
           have htie := hr.tie
           have h77 : 2 * (K * 2 ^ E2) = 2 * (a * Y) + 2 ^ E2 ∧ K * 2 ^ E2 = 2 ^ U1 + 2 ^ E2 := aux2 hup h7 h3 (aux1 h1 hu22)
           obtain ⟨hKo, hKeq⟩ := h77
           have hev := htie hKo
           have hK1 : K = 2 ^ (U1 - E2) + 1 := by
             apply Nat.eq_of_mul_eq_mul_right (Nat.two_pow_pos E2)
             rw [hKeq, Nat.add_mul, Nat.one_mul, ← hm]
           have h52 : U1 - E2 = 52 := by omega
           rw [h52] at hK1
           omega
         · have h8 : 2 * 2 ^ E ≤ 2 ^ E2 := by
             rw [← Nat.pow_succ']
             exact Nat.pow_le_pow_right (by decide) (by omega)
           exact aux3 hup h7 h3 (aux1 h1 hu22) hlo hr.hi h8 hu22
       · exact hc
     rw [hm]
     exact Nat.mul_le_mul_right _ hK
theorem zero_FI : FI 0 0 := ⟨fin_zero, by rw [V_zero, Int.zero_mul]⟩
theorem inv_big {b Y k F : Nat} (hY : Y = k * 2 ^ F) (hd : DivSpec k F 1 b (2 ^ U1)) (hb0 : 0 < b) (hb : b ≤ 2 ^ 44) : 2 ^ U1 ≤ 2 ^ 45 * Y ∧ Y ≤ 2 * 2 ^ U1 := by
 have hup := hd.up
 have hdn := hd.dn
 have hbl := hd.bl
 rw [Nat.one_mul] at hup hdn hbl
 have e : 2 * k * (2 ^ F * b) = 2 * (Y * b) := by rw [hY]; ac_rfl
 rw [e] at hup hdn
 have h1 : Y * b ≤ Y * 2 ^ 44 := Nat.mul_le_mul_left _ hb
 have h2 : Y ≤ Y * b := Nat.le_mul_of_pos_right _ hb0
 clear hd hY e
 generalize 2 ^ F * b = g at *
 generalize 2 ^ U1 = u at *
 generalize Y * b = z at *
 have hgu : g ≤ u := by omega
 clear hbl
 have h3 : u ≤ 2 * z := by omega
 have h4 : z ≤ 2 * u := by omega
 clear hup hdn hgu hb
 exact ⟨by omega, by omega⟩
theorem tu {A B r : Nat} {n w : Int} (hA : FI A n) (hB : FI B w) (hw : w ≠ 0) (hn : n.natAbs ≤ 2 ^ 44) (hw2 : w.natAbs ≤ 2 ^ 44) (h : QuoRel .f64 4607182418800017408 B r) :
   fok .mul .f64 A r ∧ fGe .f64 (fop .mul .f64 A r) 0 = decide (0 ≤ n * w) ∧ (0 ≤ n * w → fLe .f64 (fop .mul .f64 A r) 4607182418800017408 = decide (n.natAbs ≤ w.natAbs)) := by
 obtain ⟨q, d1, d2, k, F, d3, d4⟩ := FI_div one_FI hB (by decide) hw (by omega) (by decide)
 have hq : floatBits .quo .f64 4607182418800017408 B = some q := d1
 unfold QuoRel at h
 rw [hq] at h
 have h : q = r := h.symm
 subst h
 have hd0 : decide ((1 : Int) < 0) = false := rfl
 rw [hd0, Bool.false_xor] at d4
 rw [show (1 : Int).natAbs = 1 from rfl] at d3
 obtain ⟨Y, hY⟩ : ∃ Y, Y = k * 2 ^ F := ⟨_, rfl⟩
 rw [← hY] at d4
 obtain ⟨b1, b2⟩ := inv_big hY d3 (by omega) hw2
 have hp : 0 < 2 ^ U1 := Nat.two_pow_pos _
 have hY0 : 0 < Y := by
   generalize 2 ^ U1 = u at *
   omega
 have hYb : 2 ^ U0 ≤ Y := by
   have h1 : 2 ^ U0 * 2 ^ 45 ≤ 2 ^ U1 := by
     rw [← Nat.pow_add]
     exact Nat.pow_le_pow_right (by decide) (by decide)
   generalize 2 ^ U1 = u at *
   generalize 2 ^ U0 = u0 at *
   omega
 have hVabs : (V q).natAbs = Y := by rw [d4]; split <;> omega
 have hVs : decide (V q < 0) = decide (w < 0) := by
   rw [d4]
   by_cases hneg : w < 0
   · rw [decide_eq_true hneg]; simp only [if_true]; exact decide_eq_true (by omega)
   · rw [decide_eq_false hneg]; simp only [Bool.false_eq_true, if_false]; exact decide_eq_false (by omega)
 by_cases h0 : n = 0
 · subst h0
   have hv0 : V A = 0 := by rw [hA.2, Int.zero_mul]
   obtain ⟨t, m1, m2⟩ := mul_zero' hA.1 d2 (.inl hv0)
   have m3 : floatBits .mul .f64 A q = some t := m1
   have hf : fop .mul .f64 A q = t := by unfold fop; rw [m3]; rfl
   refine ⟨by unfold fok; rw [m3]; rfl, ?_, fun _ => ?_⟩
   · rw [hf, fge_I m2 zero_FI, Int.zero_mul]
   · rw [hf, fle_I m2 one_FI]
     exact decide_eq_decide.2 (by omega)
 · have hpi := pow_pos' U1
   have hv0 : V A ≠ 0 := by
     rw [hA.2]
     intro e
     rcases Int.mul_eq_zero.1 e with e | e
     · exact h0 e
     · omega
   have hq0 : V q ≠ 0 := by omega
   obtain ⟨mag, place, m1, m2, m3, m4⟩ := mul_read hA.1 d2 (big_FI hA) (.inr (by rw [hVabs]; exact hYb)) hv0 hq0
   have hP : mag * 2 ^ (place + 1074).toNat = n.natAbs * Y := by
     apply Nat.eq_of_mul_eq_mul_right hp
     rw [m4, hVabs, hA.2, Int.natAbs_mul, natAbs_pow2, Nat.mul_right_comm]
   have hlog : place + mag.log2 ≤ 1022 := by
     have h1 : 2 ^ mag.log2 * 2 ^ (place + 1074).toNat ≤ 2 ^ 45 * 2 ^ U1 := by
       apply Nat.le_trans (Nat.mul_le_mul_right _ (Nat.log2_self_le m2))
       rw [hP]
       apply Nat.le_trans (Nat.mul_le_mul hn b2)
       generalize 2 ^ U1 = u
       omega
     rw [← Nat.pow_add, ← Nat.pow_add] at h1
     have h2 := (Nat.pow_le_pow_iff_right (by decide : 1 < 2)).1 h1
     have : U1 = 1074 := rfl
     omega
   obtain ⟨f1, f2⟩ := nearest_V (decide (V A < 0) ^^ decide (V q < 0)) m2 hlog
   have hR := round_spec (decide (V A < 0) ^^ decide (V q < 0)) m2 m3
   have hpos := (near_bounds (decide (V A < 0) ^^ decide (V q < 0)) m2 m3).1
   rw [hP] at hR
   have hsA : decide (V A < 0) = decide (n < 0) := by
     refine decide_eq_decide.2 ?_
     rw [hA.2]
     constructor
     · intro hh
       rcases Int.lt_or_le n 0 with h1 | h1
       · exact h1
       · have := Int.mul_nonneg h1 (Int.le_of_lt hpi); omega
     · intro hh; exact Int.mul_neg_of_neg_of_pos hh hpi
   rw [hsA, hVs] at f1 f2 hR hpos m1
   have m5 : floatBits .mul .f64 A q = some (double.nearest (decide (n < 0) ^^ decide (w < 0)) mag place) := m1
   have hf : fop .mul .f64 A q = double.nearest (decide (n < 0) ^^ decide (w < 0)) mag place := by unfold fop; rw [m5]; rfl
   have hle := inv_le hY d3 (by omega) hw2 hR
   have hpc : ∀ k : Nat, ((2 ^ k : Nat) : Int) = 2 ^ k := fun k => by rw [Int.natCast_pow]; rfl
   have hone : V 4607182418800017408 = ((2 ^ U1 : Nat) : Int) := by rw [one_FI.2, Int.one_mul, hpc]
   generalize hv : keptOf (decide (n < 0) ^^ decide (w < 0)) mag place * 2 ^ (last mag place + 1074).toNat = v at *
   refine ⟨by unfold fok; rw [m5]; rfl, ?_, fun hnn => ?_⟩
   · rw [hf, fge_V f1 fin_zero, V_zero, f2]
     refine decide_eq_decide.2 ?_
     have hms := mul_sign n w
     have hab : 0 < n.natAbs * w.natAbs := Nat.mul_pos (by omega) (by omega)
     generalize n.natAbs * w.natAbs = m at *
     rw [hms]
     cases (decide (n < 0) ^^ decide (w < 0))
     · simp only [Bool.false_eq_true, if_false]; omega
     · simp only [if_true]; omega
   · rw [hf, fle_V f1 one_FI.1, hone, f2]
     refine decide_eq_decide.2 ?_
     have hms := mul_sign n w
     have hab : 0 < n.natAbs * w.natAbs := Nat.mul_pos (by omega) (by omega)
     generalize n.natAbs * w.natAbs = m at *
     rw [hms] at hnn
     revert hnn
     cases (decide (n < 0) ^^ decide (w < 0))
     · simp only [Bool.false_eq_true, if_false]
       intro _
       rw [← hle]
       exact Int.ofNat_le
     · simp only [if_true]
       intro hnn; omega
end Go.Fl

namespace Go.Proofs.Tryz.Sx
open Go Go.Sx Go.Proofs Go.Fl Go.Geo
set_option maxRecDepth 100000
def eqZeroF : PF := fun
 | [.flt .f64 x] => some (.bool (!(fLt .f64 x 0 || fGt .f64 x 0)), none)
 | _ => none
theorem vc_eqZero (R : SV → Prop) (x : Nat) : runA G0 0 [] [] (codeOf Tryz.f214) (init Tryz.f214.ntmps [.flt .f64 x] [] 0) (endK G0.E.T Tryz.f214.results.toList fun _ v => R v) = (
(fLt .f64 x (0 : Nat) = true → R SV.ff) ∧ (fLt .f64 x (0 : Nat) = false → R (SV.bool !fGt .f64 x (0 : Nat)))) := by kernel_rfl
theorem eqZero : PureOk Tryz.prog 214 eqZeroF := by
 refine pure_of_vc g0 Tryz.func214 rfl (by kernel_rfl) ?_
 intro args v p h hp
 unfold eqZeroF at h
 split at h
 · rename_i x
   injection h with h; injection h with h1 h2; subst h1; subst h2
   clear hp
   refine ⟨rfl, _, _, (vc_eqZero _ x).mpr ?_⟩
   simp only [eqv]
   grind
 · cases h
noncomputable def GIS : Ctx := ⟨⟨tys, [(100, [true, true])]⟩, [(90, pureCon rayF), (214, pureCon eqZeroF)]⟩
theorem gIS : CtxOk Tryz.prog GIS := ⟨⟨tysOk, FlatsOk.cons flat61 FlatsOk.nil⟩, GamOk.cons (.pure ray) (GamOk.cons (.pure eqZero) GamOk.nil), by kernel_rfl⟩
abbrev D (x y : Nat) : Nat := fop .sub .f64 x y
abbrev M (x y : Nat) : Nat := fop .mul .f64 x y
abbrev CR (x y z w : Nat) : Nat := D (M x w) (M y z)
def isH (ax ay bx by' cx cy dx dy : Nat) : Heap := [(0, ⟨true, 111, .cells [.flt .f64 ax, .flt .f64 ay, .flt .f64 bx, .flt .f64 by'], 0⟩), (1, ⟨true, 111, .cells [.flt .f64 cx, .flt .f64 cy, .flt .f64 dx, .flt .f64 dy], 0⟩), (2, ⟨true, 100, .cells [.flt .f64 ax, .flt .f64 ay], 0⟩), (3, ⟨true, 100, .cells [.flt .f64 bx, .flt .f64 by'], 0⟩), (4, ⟨true, 100, .cells [.flt .f64 cx, .flt .f64 cy], 0⟩), (5, ⟨true, 100, .cells [.flt .f64 dx, .flt .f64 dy], 0⟩)]
def isS : Slots := [(2, .ptr 0 0), (3, .ptr 1 0), (5, .ptr 2 0), (6, .ptr 3 0), (7, .ptr 4 0), (8, .ptr 5 0)]
def isF (ax ay bx by' cx cy dx dy : Nat) (p : Prop) : Fam := ⟨Nat, fun _ => ⟨300, isS, isH ax ay bx by' cx cy dx dy, 6⟩, fun _ => p, fun _ => 0⟩
def isF2 (ax ay bx by' cx cy dx dy : Nat) (p : Prop) : Fam := ⟨Nat, fun _ => ⟨300, (9, .flt .f64 (D cx ax)) :: (10, .flt .f64 (D cy ay)) :: (11, .flt .f64 (D bx ax)) :: (12, .flt .f64 (D by' ay)) :: (13, .flt .f64 (CR (D cx ax) (D cy ay) (D bx ax) (D by' ay))) :: isS, isH ax ay bx by' cx cy dx dy, 6⟩, fun _ => p, fun _ => 0⟩
def isF3 (ax ay bx by' cx cy dx dy : Nat) (p : Prop) : Fam := ⟨Nat, fun _ => ⟨300, (13, .flt .f64 (CR (D cx ax) (D cy ay) (D bx ax) (D by' ay))) :: (16, .flt .f64 (CR (D cx ax) (D cy ay) (D dx cx) (D dy cy))) :: (17, .flt .f64 (CR (D bx ax) (D by' ay) (D dx cx) (D dy cy))) :: isS, isH ax ay bx by' cx cy dx dy, 6⟩, fun _ => p, fun _ => 0⟩
def yMeet (a2 b2 c2 d2 : Int) : Prop := ¬ (max a2 b2 < min c2 d2 ∨ max c2 d2 < min a2 b2)
def noEnds (a1 a2 b1 b2 c1 c2 d1 d2 : Int) : Prop := ¬ ((a1 = c1 ∧ a2 = c2) ∨ (a1 = d1 ∧ a2 = d2) ∨ (b1 = c1 ∧ b2 = c2) ∨ (b1 = d1 ∧ b2 = d2))
def xp (x y z w : Int) : Int := x * w - y * z
def half (a b c : Int) : Prop := (c ≤ a ∧ b < c) ∨ (a < c ∧ c ≤ b)
def Isec (a1 a2 b1 b2 c1 c2 d1 d2 : Int) : Prop :=
 yMeet a2 b2 c2 d2 ∧ yMeet a1 b1 c1 d1 ∧ (¬ noEnds a1 a2 b1 b2 c1 c2 d1 d2 ∨
   (xp (c1 - a1) (c2 - a2) (b1 - a1) (b2 - a2) = 0 ∧ (half a1 b1 c1 ∨ half a2 b2 c2 ∨ On a1 a2 b1 b2 c1 c2 ∨ On a1 a2 b1 b2 d1 d2)) ∨
   (xp (c1 - a1) (c2 - a2) (b1 - a1) (b2 - a2) ≠ 0 ∧ xp (b1 - a1) (b2 - a2) (d1 - c1) (d2 - c2) ≠ 0 ∧
     0 ≤ xp (c1 - a1) (c2 - a2) (d1 - c1) (d2 - c2) * xp (b1 - a1) (b2 - a2) (d1 - c1) (d2 - c2) ∧ (xp (c1 - a1) (c2 - a2) (d1 - c1) (d2 - c2)).natAbs ≤ (xp (b1 - a1) (b2 - a2) (d1 - c1) (d2 - c2)).natAbs ∧
     0 ≤ xp (c1 - a1) (c2 - a2) (b1 - a1) (b2 - a2) * xp (b1 - a1) (b2 - a2) (d1 - c1) (d2 - c2) ∧ (xp (c1 - a1) (c2 - a2) (b1 - a1) (b2 - a2)).natAbs ≤ (xp (b1 - a1) (b2 - a2) (d1 - c1) (d2 - c2)).natAbs))
instance (a b c d : Int) : Decidable (yMeet a b c d) := by unfold yMeet; infer_instance
instance (a b c d e f g h : Int) : Decidable (noEnds a b c d e f g h) := by unfold noEnds; infer_instance
instance (a b c : Int) : Decidable (half a b c) := by unfold half; infer_instance
instance (a b c d e f g h : Int) : Decidable (Isec a b c d e f g h) := by unfold Isec; infer_instance
structure P8 (ax ay bx by' cx cy dx dy : Nat) (a1 a2 b1 b2 c1 c2 d1 d2 : Int) : Prop where
 ax : FI ax a1
 ay : FI ay a2
 bx : FI bx b1
 by' : FI by' b2
 cx : FI cx c1
 cy : FI cy c2
 dx : FI dx d1
 dy : FI dy d2
 s : (small a1 ∧ small a2 ∧ small b1 ∧ small b2) ∧ (small c1 ∧ small c2 ∧ small d1 ∧ small d2)
theorem vc_isec (R : SV → Prop) (P1 P2 P3 P4 P5 : Prop) (ax ay bx by' cx cy dx dy : Nat) : runA GIS 0 [] [(2, isF ax ay bx by' cx cy dx dy True), (13, isF ax ay bx by' cx cy dx dy P1), (24, isF ax ay bx by' cx cy dx dy P2), (26, isF ax ay bx by' cx cy dx dy P3), (29, isF2 ax ay bx by' cx cy dx dy P3), (33, isF2 ax ay bx by' cx cy dx dy P4), (36, isF3 ax ay bx by' cx cy dx dy P4), (38, isF3 ax ay bx by' cx cy dx dy P5)] (codeOf Tryz.f210) (init 300 [.agg [.flt .f64 ax, .flt .f64 ay, .flt .f64 bx, .flt .f64 by'], .agg [.flt .f64 cx, .flt .f64 cy, .flt .f64 dx, .flt .f64 dy]] [] 0) (endK GIS.E.T Tryz.f210.results.toList fun _ v => R v) = (
(true = true ∧ ∃ (_ : Nat), True ∧ ((True ∧ (0 : Nat) = (0 : Nat)) ∧ (True ∧ (0 : Nat) = (0 : Nat)) ∧ (True ∧ (0 : Nat) = (0 : Nat)) ∧ (True ∧ (0 : Nat) = (0 : Nat)) ∧ (True ∧ (0 : Nat) = (0 : Nat)) ∧ (True ∧ (0 : Nat) = (0 : Nat)) ∧ True) ∧ True ∧
((111 : Nat) = (111 : Nat) ∧ (0 : Nat) = (0 : Nat) ∧ ax = ax ∧ ay = ay ∧ bx = bx ∧ by' = by' ∧ True) ∧ True ∧ ((111 : Nat) = (111 : Nat) ∧ (0 : Nat) = (0 : Nat) ∧ cx = cx ∧ cy = cy ∧ dx = dx ∧ dy = dy ∧ True) ∧ True ∧ ((100 : Nat) = (100 : Nat) ∧ (0
: Nat) = (0 : Nat) ∧ ax = ax ∧ ay = ay ∧ True) ∧ True ∧ ((100 : Nat) = (100 : Nat) ∧ (0 : Nat) = (0 : Nat) ∧ bx = bx ∧ by' = by' ∧ True) ∧ True ∧ ((100 : Nat) = (100 : Nat) ∧ (0 : Nat) = (0 : Nat) ∧ cx = cx ∧ cy = cy ∧ True) ∧ True ∧ ((100 : Nat) =
(100 : Nat) ∧ (0 : Nat) = (0 : Nat) ∧ dx = dx ∧ dy = dy ∧ True) ∧ True) ∧ ∀ (_ : Nat), True → ((fGt .f64 ay by' = true → (fGt .f64 cy dy = true → (fGt .f64 by' cy = true → R SV.ff) ∧ (fGt .f64 by' cy = false → (fLt .f64
 ay dy = true → R SV.ff) ∧ (fLt .f64 ay dy = false → ∃ (_ : Nat), P1 ∧ ((True ∧ (0 : Nat) = (0 : Nat)) ∧ (True ∧ (0 : Nat) = (0 : Nat)) ∧ (True ∧ (0 : Nat) = (0 : Nat)) ∧ (True ∧ (0 : Nat) = (0 : Nat)) ∧ (True ∧ (0 : Nat) = (0 : Nat)) ∧ (True ∧
(0 : Nat) = (0 : Nat)) ∧ True) ∧ True ∧ ((111 : Nat) = (111 : Nat) ∧ (0 : Nat) = (0 : Nat) ∧ ax = ax ∧ ay = ay ∧ bx = bx ∧ by' = by' ∧ True) ∧ True ∧ ((111 : Nat) = (111 : Nat) ∧ (0 : Nat) = (0 : Nat) ∧ cx = cx ∧ cy = cy ∧ dx = dx ∧ dy = dy ∧ True) ∧
 True ∧ ((100 : Nat) = (100 : Nat) ∧ (0 : Nat) = (0 : Nat) ∧ ax = ax ∧ ay = ay ∧ True) ∧ True ∧ ((100 : Nat) = (100 : Nat) ∧ (0 : Nat) = (0 : Nat) ∧ bx = bx ∧ by' = by' ∧ True) ∧ True ∧ ((100 : Nat) = (100 : Nat) ∧ (0 : Nat) = (0 : Nat) ∧ cx = cx ∧ cy
= cy ∧ True) ∧ True ∧ ((100 : Nat) = (100 : Nat) ∧ (0 : Nat) = (0 : Nat) ∧ dx = dx ∧ dy = dy ∧ True) ∧ True))) ∧ (fGt .f64 cy dy = false → (fGt .f64 by' dy = true → R SV.ff) ∧ (fGt .f64 by' dy = false → (fLt .f64 ay cy = true
→ R SV.ff) ∧ (fLt .f64 ay cy = false → ∃ (_ : Nat), P1 ∧ ((True ∧ (0 : Nat) = (0 : Nat)) ∧ (True ∧ (0 : Nat) = (0 : Nat)) ∧ (True ∧ (0 : Nat) = (0 : Nat)) ∧ (True ∧ (0 : Nat) = (0 : Nat)) ∧ (True ∧ (0 : Nat) = (0 : Nat)) ∧ (True ∧ (0 : Nat) =
(0 : Nat)) ∧ True) ∧ True ∧ ((111 : Nat) = (111 : Nat) ∧ (0 : Nat) = (0 : Nat) ∧ ax = ax ∧ ay = ay ∧ bx = bx ∧ by' = by' ∧ True) ∧ True ∧ ((111 : Nat) = (111 : Nat) ∧ (0 : Nat) = (0 : Nat) ∧ cx = cx ∧ cy = cy ∧ dx = dx ∧ dy = dy ∧ True) ∧ True ∧
((100 : Nat) = (100 : Nat) ∧ (0 : Nat) = (0 : Nat) ∧ ax = ax ∧ ay = ay ∧ True) ∧ True ∧ ((100 : Nat) = (100 : Nat) ∧ (0 : Nat) = (0 : Nat) ∧ bx = bx ∧ by' = by' ∧ True) ∧ True ∧ ((100 : Nat) = (100 : Nat) ∧ (0 : Nat) = (0 : Nat) ∧ cx = cx ∧ cy = cy ∧
 True) ∧ True ∧ ((100 : Nat) = (100 : Nat) ∧ (0 : Nat) = (0 : Nat) ∧ dx = dx ∧ dy = dy ∧ True) ∧ True)))) ∧ (fGt .f64 ay by' = false → (fGt .f64 cy dy = true → (fGt .f64 ay cy = true → R SV.ff) ∧ (fGt .f64 ay cy = false →
(fLt .f64 by' dy = true → R SV.ff) ∧ (fLt .f64 by' dy = false → ∃ (_ : Nat), P1 ∧ ((True ∧ (0 : Nat) = (0 : Nat)) ∧ (True ∧ (0 : Nat) = (0 : Nat)) ∧ (True ∧ (0 : Nat) = (0 : Nat)) ∧ (True ∧ (0 : Nat) = (0 : Nat)) ∧ (True ∧ (0 : Nat) = (0
: Nat)) ∧ (True ∧ (0 : Nat) = (0 : Nat)) ∧ True) ∧ True ∧ ((111 : Nat) = (111 : Nat) ∧ (0 : Nat) = (0 : Nat) ∧ ax = ax ∧ ay = ay ∧ bx = bx ∧ by' = by' ∧ True) ∧ True ∧ ((111 : Nat) = (111 : Nat) ∧ (0 : Nat) = (0 : Nat) ∧ cx = cx ∧ cy = cy ∧ dx = dx ∧
 dy = dy ∧ True) ∧ True ∧ ((100 : Nat) = (100 : Nat) ∧ (0 : Nat) = (0 : Nat) ∧ ax = ax ∧ ay = ay ∧ True) ∧ True ∧ ((100 : Nat) = (100 : Nat) ∧ (0 : Nat) = (0 : Nat) ∧ bx = bx ∧ by' = by' ∧ True) ∧ True ∧ ((100 : Nat) = (100 : Nat) ∧ (0 : Nat) = (0 :
 Nat) ∧ cx = cx ∧ cy = cy ∧ True) ∧ True ∧ ((100 : Nat) = (100 : Nat) ∧ (0 : Nat) = (0 : Nat) ∧ dx = dx ∧ dy = dy ∧ True) ∧ True))) ∧ (fGt .f64 cy dy = false → (fGt .f64 ay dy = true → R SV.ff) ∧ (fGt .f64 ay dy = false → (fLt
.f64 by' cy = true → R SV.ff) ∧ (fLt .f64 by' cy = false → ∃ (_ : Nat), P1 ∧ ((True ∧ (0 : Nat) = (0 : Nat)) ∧ (True ∧ (0 : Nat) = (0 : Nat)) ∧ (True ∧ (0 : Nat) = (0 : Nat)) ∧ (True ∧ (0 : Nat) = (0 : Nat)) ∧ (True ∧ (0 : Nat) = (0 : Nat)) ∧
(True ∧ (0 : Nat) = (0 : Nat)) ∧ True) ∧ True ∧ ((111 : Nat) = (111 : Nat) ∧ (0 : Nat) = (0 : Nat) ∧ ax = ax ∧ ay = ay ∧ bx = bx ∧ by' = by' ∧ True) ∧ True ∧ ((111 : Nat) = (111 : Nat) ∧ (0 : Nat) = (0 : Nat) ∧ cx = cx ∧ cy = cy ∧ dx = dx ∧ dy = dy ∧
 True) ∧ True ∧ ((100 : Nat) = (100 : Nat) ∧ (0 : Nat) = (0 : Nat) ∧ ax = ax ∧ ay = ay ∧ True) ∧ True ∧ ((100 : Nat) = (100 : Nat) ∧ (0 : Nat) = (0 : Nat) ∧ bx = bx ∧ by' = by' ∧ True) ∧ True ∧ ((100 : Nat) = (100 : Nat) ∧ (0 : Nat) = (0 : Nat) ∧ cx =
 cx ∧ cy = cy ∧ True) ∧ True ∧ ((100 : Nat) = (100 : Nat) ∧ (0 : Nat) = (0 : Nat) ∧ dx = dx ∧ dy = dy ∧ True) ∧ True))))) ∧ ∀ (_ : Nat), P1 → ((fGt .f64 ax bx = true → (fGt .f64 cx dx = true → (fGt .f64 bx cx = true → R SV.ff) ∧
(fGt .f64 bx cx = false → (fLt .f64 ax dx = true → R SV.ff) ∧ (fLt .f64 ax dx = false → ∃ (_ : Nat), P2 ∧ ((True ∧ (0 : Nat) = (0 : Nat)) ∧ (True ∧ (0 : Nat) = (0 : Nat)) ∧ (True ∧ (0 : Nat) = (0 : Nat)) ∧ (True ∧ (0 : Nat) = (0 :
 Nat)) ∧ (True ∧ (0 : Nat) = (0 : Nat)) ∧ (True ∧ (0 : Nat) = (0 : Nat)) ∧ True) ∧ True ∧ ((111 : Nat) = (111 : Nat) ∧ (0 : Nat) = (0 : Nat) ∧ ax = ax ∧ ay = ay ∧ bx = bx ∧ by' = by' ∧ True) ∧ True ∧ ((111 : Nat) = (111 : Nat) ∧ (0 : Nat) = (0 : Nat)
∧ cx = cx ∧ cy = cy ∧ dx = dx ∧ dy = dy ∧ True) ∧ True ∧ ((100 : Nat) = (100 : Nat) ∧ (0 : Nat) = (0 : Nat) ∧ ax = ax ∧ ay = ay ∧ True) ∧ True ∧ ((100 : Nat) = (100 : Nat) ∧ (0 : Nat) = (0 : Nat) ∧ bx = bx ∧ by' = by' ∧ True) ∧ True ∧ ((100 : Nat) =
(100 : Nat) ∧ (0 : Nat) = (0 : Nat) ∧ cx = cx ∧ cy = cy ∧ True) ∧ True ∧ ((100 : Nat) = (100 : Nat) ∧ (0 : Nat) = (0 : Nat) ∧ dx = dx ∧ dy = dy ∧ True) ∧ True))) ∧ (fGt .f64 cx dx = false → (fGt .f64 bx dx = true → R SV.ff) ∧ (fGt
.f64 bx dx = false → (fLt .f64 ax cx = true → R SV.ff) ∧ (fLt .f64 ax cx = false → ∃ (_ : Nat), P2 ∧ ((True ∧ (0 : Nat) = (0 : Nat)) ∧ (True ∧ (0 : Nat) = (0 : Nat)) ∧ (True ∧ (0 : Nat) = (0 : Nat)) ∧ (True ∧ (0 : Nat) = (0 : Nat)) ∧
(True ∧ (0 : Nat) = (0 : Nat)) ∧ (True ∧ (0 : Nat) = (0 : Nat)) ∧ True) ∧ True ∧ ((111 : Nat) = (111 : Nat) ∧ (0 : Nat) = (0 : Nat) ∧ ax = ax ∧ ay = ay ∧ bx = bx ∧ by' = by' ∧ True) ∧ True ∧ ((111 : Nat) = (111 : Nat) ∧ (0 : Nat) = (0 : Nat) ∧ cx =
 cx ∧ cy = cy ∧ dx = dx ∧ dy = dy ∧ True) ∧ True ∧ ((100 : Nat) = (100 : Nat) ∧ (0 : Nat) = (0 : Nat) ∧ ax = ax ∧ ay = ay ∧ True) ∧ True ∧ ((100 : Nat) = (100 : Nat) ∧ (0 : Nat) = (0 : Nat) ∧ bx = bx ∧ by' = by' ∧ True) ∧ True ∧ ((100 : Nat) = (100 :
 Nat) ∧ (0 : Nat) = (0 : Nat) ∧ cx = cx ∧ cy = cy ∧ True) ∧ True ∧ ((100 : Nat) = (100 : Nat) ∧ (0 : Nat) = (0 : Nat) ∧ dx = dx ∧ dy = dy ∧ True) ∧ True)))) ∧ (fGt .f64 ax bx = false → (fGt .f64 cx dx = true → (fGt .f64 ax cx = true
→ R SV.ff) ∧ (fGt .f64 ax cx = false → (fLt .f64 bx dx = true → R SV.ff) ∧ (fLt .f64 bx dx = false → ∃ (_ : Nat), P2 ∧ ((True ∧ (0 : Nat) = (0 : Nat)) ∧ (True ∧ (0 : Nat) = (0 : Nat)) ∧ (True ∧ (0 : Nat) = (0 : Nat)) ∧ (True ∧ (0 :
 Nat) = (0 : Nat)) ∧ (True ∧ (0 : Nat) = (0 : Nat)) ∧ (True ∧ (0 : Nat) = (0 : Nat)) ∧ True) ∧ True ∧ ((111 : Nat) = (111 : Nat) ∧ (0 : Nat) = (0 : Nat) ∧ ax = ax ∧ ay = ay ∧ bx = bx ∧ by' = by' ∧ True) ∧ True ∧ ((111 : Nat) = (111 : Nat) ∧ (0 : Nat)
= (0 : Nat) ∧ cx = cx ∧ cy = cy ∧ dx = dx ∧ dy = dy ∧ True) ∧ True ∧ ((100 : Nat) = (100 : Nat) ∧ (0 : Nat) = (0 : Nat) ∧ ax = ax ∧ ay = ay ∧ True) ∧ True ∧ ((100 : Nat) = (100 : Nat) ∧ (0 : Nat) = (0 : Nat) ∧ bx = bx ∧ by' = by' ∧ True) ∧ True ∧
((100 : Nat) = (100 : Nat) ∧ (0 : Nat) = (0 : Nat) ∧ cx = cx ∧ cy = cy ∧ True) ∧ True ∧ ((100 : Nat) = (100 : Nat) ∧ (0 : Nat) = (0 : Nat) ∧ dx = dx ∧ dy = dy ∧ True) ∧ True))) ∧ (fGt .f64 cx dx = false → (fGt .f64 ax dx = true → R SV.ff)
∧ (fGt .f64 ax dx = false → (fLt .f64 bx cx = true → R SV.ff) ∧ (fLt .f64 bx cx = false → ∃ (_ : Nat), P2 ∧ ((True ∧ (0 : Nat) = (0 : Nat)) ∧ (True ∧ (0 : Nat) = (0 : Nat)) ∧ (True ∧ (0 : Nat) = (0 : Nat)) ∧ (True ∧ (0 : Nat) = (0 :
 Nat)) ∧ (True ∧ (0 : Nat) = (0 : Nat)) ∧ (True ∧ (0 : Nat) = (0 : Nat)) ∧ True) ∧ True ∧ ((111 : Nat) = (111 : Nat) ∧ (0 : Nat) = (0 : Nat) ∧ ax = ax ∧ ay = ay ∧ bx = bx ∧ by' = by' ∧ True) ∧ True ∧ ((111 : Nat) = (111 : Nat) ∧ (0 : Nat) = (0 : Nat)
∧ cx = cx ∧ cy = cy ∧ dx = dx ∧ dy = dy ∧ True) ∧ True ∧ ((100 : Nat) = (100 : Nat) ∧ (0 : Nat) = (0 : Nat) ∧ ax = ax ∧ ay = ay ∧ True) ∧ True ∧ ((100 : Nat) = (100 : Nat) ∧ (0 : Nat) = (0 : Nat) ∧ bx = bx ∧ by' = by' ∧ True) ∧ True ∧ ((100 : Nat) =
(100 : Nat) ∧ (0 : Nat) = (0 : Nat) ∧ cx = cx ∧ cy = cy ∧ True) ∧ True ∧ ((100 : Nat) = (100 : Nat) ∧ (0 : Nat) = (0 : Nat) ∧ dx = dx ∧ dy = dy ∧ True) ∧ True))))) ∧ ∀ (_ : Nat), P2 → (((fEq .f64 ax cx && (fEq .f64 ay cy && true)) = true
→ R SV.tt) ∧ ((fEq .f64 ax cx && (fEq .f64 ay cy && true)) = false → ((fEq .f64 ax dx && (fEq .f64 ay dy && true)) = true → R SV.tt) ∧ ((fEq .f64 ax dx && (fEq .f64 ay dy && true)) = false → ((fEq .f64 bx cx
&& (fEq .f64 by' cy && true)) = true → R SV.tt) ∧ ((fEq .f64 bx cx && (fEq .f64 by' cy && true)) = false → ((fEq .f64 bx dx && (fEq .f64 by' dy && true)) = true → R SV.tt) ∧ ((fEq .f64 bx dx && (fEq .f64 by'
 dy && true)) = false → ∃ (_ : Nat), P3 ∧ ((True ∧ (0 : Nat) = (0 : Nat)) ∧ (True ∧ (0 : Nat) = (0 : Nat)) ∧ (True ∧ (0 : Nat) = (0 : Nat)) ∧ (True ∧ (0 : Nat) = (0 : Nat)) ∧ (True ∧ (0 : Nat) = (0 : Nat)) ∧ (True ∧ (0 : Nat) = (0 : Nat)) ∧ True) ∧
 True ∧ ((111 : Nat) = (111 : Nat) ∧ (0 : Nat) = (0 : Nat) ∧ ax = ax ∧ ay = ay ∧ bx = bx ∧ by' = by' ∧ True) ∧ True ∧ ((111 : Nat) = (111 : Nat) ∧ (0 : Nat) = (0 : Nat) ∧ cx = cx ∧ cy = cy ∧ dx = dx ∧ dy = dy ∧ True) ∧ True ∧ ((100 : Nat) = (100 :
 Nat) ∧ (0 : Nat) = (0 : Nat) ∧ ax = ax ∧ ay = ay ∧ True) ∧ True ∧ ((100 : Nat) = (100 : Nat) ∧ (0 : Nat) = (0 : Nat) ∧ bx = bx ∧ by' = by' ∧ True) ∧ True ∧ ((100 : Nat) = (100 : Nat) ∧ (0 : Nat) = (0 : Nat) ∧ cx = cx ∧ cy = cy ∧ True) ∧ True ∧ ((100
: Nat) = (100 : Nat) ∧ (0 : Nat) = (0 : Nat) ∧ dx = dx ∧ dy = dy ∧ True) ∧ True))))) ∧ ∀ (_ : Nat), P3 → fok BinOp.sub .f64 cx ax ∧ fok BinOp.sub .f64 cy ay ∧ true = true ∧ fok BinOp.sub .f64 bx ax ∧ fok BinOp.sub .f64 by' ay
∧ true = true ∧ (fok BinOp.mul .f64 (fop BinOp.sub .f64 cx ax) (fop BinOp.sub .f64 by' ay) ∧ fok BinOp.mul .f64 (fop BinOp.sub .f64 cy ay) (fop BinOp.sub .f64 bx ax) ∧ fok BinOp.sub .f64 (fop BinOp.mul
.f64 (fop BinOp.sub .f64 cx ax) (fop BinOp.sub .f64 by' ay)) (fop BinOp.mul .f64 (fop BinOp.sub .f64 cy ay) (fop BinOp.sub .f64 bx ax)) ∧ ∃ (_ : Nat), P3 ∧ (fop BinOp.sub .f64 cx ax = D cx ax ∧
 fop BinOp.sub .f64 cy ay = D cy ay ∧ fop BinOp.sub .f64 bx ax = D bx ax ∧ fop BinOp.sub .f64 by' ay = D by' ay ∧ fop BinOp.sub .f64 (fop BinOp.mul .f64 (fop
 BinOp.sub .f64 cx ax) (fop BinOp.sub .f64 by' ay)) (fop BinOp.mul .f64 (fop BinOp.sub .f64 cy ay) (fop BinOp.sub .f64 bx ax)) = CR (D cx ax) (D cy ay) (D
 bx ax) (D by' ay) ∧ (True ∧ (0 : Nat) = (0 : Nat)) ∧ (True ∧ (0 : Nat) = (0 : Nat)) ∧ (True ∧ (0 : Nat) = (0 : Nat)) ∧ (True ∧ (0 : Nat) = (0 : Nat)) ∧ (True ∧ (0 : Nat) = (0 : Nat)) ∧ (True ∧ (0 : Nat) = (0 : Nat)) ∧ True) ∧ True ∧
((111 : Nat) = (111 : Nat) ∧ (0 : Nat) = (0 : Nat) ∧ ax = ax ∧ ay = ay ∧ bx = bx ∧ by' = by' ∧ True) ∧ True ∧ ((111 : Nat) = (111 : Nat) ∧ (0 : Nat) = (0 : Nat) ∧ cx = cx ∧ cy = cy ∧ dx = dx ∧ dy = dy ∧ True) ∧ True ∧ ((100 : Nat) = (100 : Nat) ∧ (0
: Nat) = (0 : Nat) ∧ ax = ax ∧ ay = ay ∧ True) ∧ True ∧ ((100 : Nat) = (100 : Nat) ∧ (0 : Nat) = (0 : Nat) ∧ bx = bx ∧ by' = by' ∧ True) ∧ True ∧ ((100 : Nat) = (100 : Nat) ∧ (0 : Nat) = (0 : Nat) ∧ cx = cx ∧ cy = cy ∧ True) ∧ True ∧ ((100 : Nat) =
(100 : Nat) ∧ (0 : Nat) = (0 : Nat) ∧ dx = dx ∧ dy = dy ∧ True) ∧ True) ∧ ∀ (_ : Nat), P3 → (((!(fLt .f64 (CR (D cx ax) (D cy ay) (D bx ax) (D by' ay)) (0
: Nat) || fGt .f64 (CR (D cx ax) (D cy ay) (D bx ax) (D by' ay)) (0 : Nat))) = true → fok BinOp.sub .f64 cx ax ∧ fok BinOp.sub .f64 cx bx ∧
((!fLe .f64 (fop BinOp.sub .f64 cx ax) (0 : Nat) == fLe .f64 (fop BinOp.sub .f64 cx bx) (0 : Nat)) = true → R SV.tt) ∧ ((!fLe .f64 (fop BinOp.sub .f64 cx ax) (0 : Nat) == fLe .f64 (fop BinOp.sub .f64 cx
 bx) (0 : Nat)) = false → fok BinOp.sub .f64 cy ay ∧ fok BinOp.sub .f64 cy by' ∧ ((!!fLe .f64 (fop BinOp.sub .f64 cy ay) (0 : Nat) == fLe .f64 (fop BinOp.sub .f64 cy by') (0 : Nat)) = true → Pts ax
 ay bx by' cx cy (wh ax) (wh ay) (wh bx) (wh by') (wh cx) (wh cy) ∧ (decide (Go.Geo.On (wh ax) (wh ay)
(wh bx) (wh by') (wh cx) (wh cy)) = true → R SV.tt) ∧ (decide (Go.Geo.On (wh ax) (wh ay) (wh bx) (wh by')
(wh cx) (wh cy)) = false → Pts ax ay bx by' dx dy (wh ax) (wh ay) (wh bx) (wh by') (wh dx)
(wh dy) ∧ R (SV.bool (decide (Go.Geo.On (wh ax) (wh ay) (wh bx) (wh by') (wh dx) (wh dy)))))) ∧ ((!!fLe .f64
(fop BinOp.sub .f64 cy ay) (0 : Nat) == fLe .f64 (fop BinOp.sub .f64 cy by') (0 : Nat)) = false → R SV.tt))) ∧ ((!(fLt .f64 (CR (D cx ax) (D cy ay) (D bx
 ax) (D by' ay)) (0 : Nat) || fGt .f64 (CR (D cx ax) (D cy ay) (D bx ax) (D by' ay)) (0 : Nat))) = false → ∃ (_ : Nat), P4 ∧
(D cx ax = D cx ax ∧ D cy ay = D cy ay ∧ D bx ax = D bx ax ∧ D by' ay = D by' ay ∧ CR
(D cx ax) (D cy ay) (D bx ax) (D by' ay) = CR (D cx ax) (D cy ay) (D bx ax) (D by' ay) ∧
(True ∧ (0 : Nat) = (0 : Nat)) ∧ (True ∧ (0 : Nat) = (0 : Nat)) ∧ (True ∧ (0 : Nat) = (0 : Nat)) ∧ (True ∧ (0 : Nat) = (0 : Nat)) ∧ (True ∧ (0 : Nat) = (0 : Nat)) ∧ (True ∧ (0 : Nat) = (0 : Nat)) ∧ True) ∧ True ∧ ((111 : Nat) = (111 : Nat) ∧ (0 :
 Nat) = (0 : Nat) ∧ ax = ax ∧ ay = ay ∧ bx = bx ∧ by' = by' ∧ True) ∧ True ∧ ((111 : Nat) = (111 : Nat) ∧ (0 : Nat) = (0 : Nat) ∧ cx = cx ∧ cy = cy ∧ dx = dx ∧ dy = dy ∧ True) ∧ True ∧ ((100 : Nat) = (100 : Nat) ∧ (0 : Nat) = (0 : Nat) ∧ ax = ax ∧ ay
= ay ∧ True) ∧ True ∧ ((100 : Nat) = (100 : Nat) ∧ (0 : Nat) = (0 : Nat) ∧ bx = bx ∧ by' = by' ∧ True) ∧ True ∧ ((100 : Nat) = (100 : Nat) ∧ (0 : Nat) = (0 : Nat) ∧ cx = cx ∧ cy = cy ∧ True) ∧ True ∧ ((100 : Nat) = (100 : Nat) ∧ (0 : Nat) = (0 : Nat)
∧ dx = dx ∧ dy = dy ∧ True) ∧ True)) ∧ ∀ (_ : Nat), P4 → fok BinOp.sub .f64 dx cx ∧ fok BinOp.sub .f64 dy cy ∧ true = true ∧ fok BinOp.mul .f64 (D cx ax) (fop BinOp.sub .f64 dy cy) ∧ fok BinOp.mul .f64
(D cy ay) (fop BinOp.sub .f64 dx cx) ∧ fok BinOp.sub .f64 (fop BinOp.mul .f64 (D cx ax) (fop BinOp.sub .f64 dy cy)) (fop BinOp.mul .f64 (D cy ay) (fop BinOp.sub
.f64 dx cx)) ∧ (fok BinOp.mul .f64 (D bx ax) (fop BinOp.sub .f64 dy cy) ∧ fok BinOp.mul .f64 (D by' ay) (fop BinOp.sub .f64 dx cx) ∧ fok BinOp.sub .f64 (fop BinOp.mul .f64
(D bx ax) (fop BinOp.sub .f64 dy cy)) (fop BinOp.mul .f64 (D by' ay) (fop BinOp.sub .f64 dx cx)) ∧ ∃ (_ : Nat), P4 ∧ (CR (D cx ax) (D cy ay)
(D bx ax) (D by' ay) = CR (D cx ax) (D cy ay) (D bx ax) (D by' ay) ∧ fop BinOp.sub .f64 (fop BinOp.mul .f64
(D cx ax) (fop BinOp.sub .f64 dy cy)) (fop BinOp.mul .f64 (D cy ay) (fop BinOp.sub .f64 dx cx)) = CR (D cx ax) (D cy ay) (D
 dx cx) (D dy cy) ∧ fop BinOp.sub .f64 (fop BinOp.mul .f64 (D bx ax) (fop BinOp.sub .f64 dy cy)) (fop BinOp.mul .f64 (D by' ay) (fop BinOp.sub .f64 dx cx)) =
 CR (D bx ax) (D by' ay) (D dx cx) (D dy cy) ∧ (True ∧ (0 : Nat) = (0 : Nat)) ∧ (True ∧ (0 : Nat) = (0 : Nat)) ∧ (True ∧ (0 : Nat) = (0 : Nat)) ∧ (True ∧ (0 :
 Nat) = (0 : Nat)) ∧ (True ∧ (0 : Nat) = (0 : Nat)) ∧ (True ∧ (0 : Nat) = (0 : Nat)) ∧ True) ∧ True ∧ ((111 : Nat) = (111 : Nat) ∧ (0 : Nat) = (0 : Nat) ∧ ax = ax ∧ ay = ay ∧ bx = bx ∧ by' = by' ∧ True) ∧ True ∧ ((111 : Nat) = (111 : Nat) ∧ (0 : Nat)
= (0 : Nat) ∧ cx = cx ∧ cy = cy ∧ dx = dx ∧ dy = dy ∧ True) ∧ True ∧ ((100 : Nat) = (100 : Nat) ∧ (0 : Nat) = (0 : Nat) ∧ ax = ax ∧ ay = ay ∧ True) ∧ True ∧ ((100 : Nat) = (100 : Nat) ∧ (0 : Nat) = (0 : Nat) ∧ bx = bx ∧ by' = by' ∧ True) ∧ True ∧
((100 : Nat) = (100 : Nat) ∧ (0 : Nat) = (0 : Nat) ∧ cx = cx ∧ cy = cy ∧ True) ∧ True ∧ ((100 : Nat) = (100 : Nat) ∧ (0 : Nat) = (0 : Nat) ∧ dx = dx ∧ dy = dy ∧ True) ∧ True) ∧ ∀ (_ : Nat), P4 → (((!(fLt .f64 (CR
(D bx ax) (D by' ay) (D dx cx) (D dy cy)) (0 : Nat) || fGt .f64 (CR (D bx ax) (D by' ay) (D dx cx)
(D dy cy)) (0 : Nat))) = true → R SV.ff) ∧ ((!(fLt .f64 (CR (D bx ax) (D by' ay) (D dx cx) (D dy cy)) (0 : Nat) || fGt .f64
(CR (D bx ax) (D by' ay) (D dx cx) (D dy cy)) (0 : Nat))) = false → ∃ (_ : Nat), P5 ∧ (CR (D cx ax) (D cy
 ay) (D bx ax) (D by' ay) = CR (D cx ax) (D cy ay) (D bx ax) (D by' ay) ∧ CR (D cx ax)
(D cy ay) (D dx cx) (D dy cy) = CR (D cx ax) (D cy ay) (D dx cx) (D dy cy) ∧ CR
(D bx ax) (D by' ay) (D dx cx) (D dy cy) = CR (D bx ax) (D by' ay) (D dx cx) (D dy cy) ∧
(True ∧ (0 : Nat) = (0 : Nat)) ∧ (True ∧ (0 : Nat) = (0 : Nat)) ∧ (True ∧ (0 : Nat) = (0 : Nat)) ∧ (True ∧ (0 : Nat) = (0 : Nat)) ∧ (True ∧ (0 : Nat) = (0 : Nat)) ∧ (True ∧ (0 : Nat) = (0 : Nat)) ∧ True) ∧ True ∧ ((111 : Nat) = (111 : Nat) ∧ (0 :
 Nat) = (0 : Nat) ∧ ax = ax ∧ ay = ay ∧ bx = bx ∧ by' = by' ∧ True) ∧ True ∧ ((111 : Nat) = (111 : Nat) ∧ (0 : Nat) = (0 : Nat) ∧ cx = cx ∧ cy = cy ∧ dx = dx ∧ dy = dy ∧ True) ∧ True ∧ ((100 : Nat) = (100 : Nat) ∧ (0 : Nat) = (0 : Nat) ∧ ax = ax ∧ ay
= ay ∧ True) ∧ True ∧ ((100 : Nat) = (100 : Nat) ∧ (0 : Nat) = (0 : Nat) ∧ bx = bx ∧ by' = by' ∧ True) ∧ True ∧ ((100 : Nat) = (100 : Nat) ∧ (0 : Nat) = (0 : Nat) ∧ cx = cx ∧ cy = cy ∧ True) ∧ True ∧ ((100 : Nat) = (100 : Nat) ∧ (0 : Nat) = (0 : Nat)
∧ dx = dx ∧ dy = dy ∧ True) ∧ True)) ∧ ∀ (_ : Nat), P5 → ∀ (r : Nat), QuoRel .f64 (4607182418800017408 : Nat) (CR (D bx ax) (D by' ay) (D dx cx) (D dy
 cy)) r → fok BinOp.mul .f64 (CR (D cx ax) (D cy ay) (D dx cx) (D dy cy)) r ∧ fok BinOp.mul .f64 (CR (D cx ax)
(D cy ay) (D bx ax) (D by' ay)) r ∧ (fGe .f64 (fop BinOp.mul .f64 (CR (D cx ax) (D cy ay) (D dx cx)
(D dy cy)) r) (0 : Nat) = true → (fLe .f64 (fop BinOp.mul .f64 (CR (D cx ax) (D cy ay) (D dx cx) (D dy cy)) r)
(4607182418800017408 : Nat) = true → (fGe .f64 (fop BinOp.mul .f64 (CR (D cx ax) (D cy ay) (D bx ax) (D by' ay)) r) (0 : Nat) = true → ((!fLe
.f64 (fop BinOp.mul .f64 (CR (D cx ax) (D cy ay) (D bx ax) (D by' ay)) r) (4607182418800017408 : Nat)) = true → R SV.ff) ∧ ((!fLe .f64 (fop
 BinOp.mul .f64 (CR (D cx ax) (D cy ay) (D bx ax) (D by' ay)) r) (4607182418800017408 : Nat)) = false → R SV.tt)) ∧ (fGe .f64 (fop BinOp.mul .f64
(CR (D cx ax) (D cy ay) (D bx ax) (D by' ay)) r) (0 : Nat) = false → R SV.ff)) ∧ (fLe .f64 (fop BinOp.mul .f64 (CR
(D cx ax) (D cy ay) (D dx cx) (D dy cy)) r) (4607182418800017408 : Nat) = false → R SV.ff)) ∧ (fGe .f64 (fop BinOp.mul .f64 (CR (D
 cx ax) (D cy ay) (D dx cx) (D dy cy)) r) (0 : Nat) = false → R SV.ff)) := by kernel_rfl
theorem sub_w {x y : Nat} {a b : Int} (hx : FI x a) (hy : FI y b) (ha : small a) (hb : small b) : fok .sub .f64 x y ∧ FI (fop .sub .f64 x y) (a - b) ∧ (a - b).natAbs ≤ 2097152 := by
 have := sub_I hx hy (by unfold small at ha; omega) (by unfold small at hb; omega)
 exact ⟨this.1, this.2, by unfold small at ha hb; omega⟩
theorem cr_w {x y z w : Nat} {a b c d : Int} (hx : FI x a) (hy : FI y b) (hz : FI z c) (hw : FI w d) (ha : a.natAbs ≤ 2097152) (hb : b.natAbs ≤ 2097152) (hc : c.natAbs ≤ 2097152) (hd : d.natAbs ≤ 2097152) :
   fok .mul .f64 x w ∧ fok .mul .f64 y z ∧ fok .sub .f64 (fop .mul .f64 x w) (fop .mul .f64 y z) ∧ FI (CR x y z w) (xp a b c d) ∧ (xp a b c d).natAbs ≤ 2 ^ 44 := by
 have b1 := mul_bound ha hd
 have b2 := mul_bound hb hc
 obtain ⟨m1, m2⟩ := mul_of hx hw (by omega)
 obtain ⟨m3, m4⟩ := mul_of hy hz (by omega)
 obtain ⟨r, h1, h2⟩ := FI_sub m2 m4 (by omega)
 obtain ⟨h3, h4⟩ := fop_of (op := .sub) h1
 refine ⟨m1, m3, h3, ?_, ?_⟩
 · show FI (fop .sub .f64 (fop .mul .f64 x w) (fop .mul .f64 y z)) _
   rw [h4]; exact h2
 · unfold xp; omega
theorem zt {v : Nat} {n : Int} (h : FI v n) : (!(fLt .f64 v 0 || fGt .f64 v 0)) = decide (n = 0) := by
 rw [flt_I h zero_FI, fgt_I h zero_FI]
 grind
theorem le0 {v : Nat} {n : Int} (h : FI v n) : fLe .f64 v 0 = decide (n ≤ 0) := fle_I h zero_FI
theorem isec_run {ax ay bx by' cx cy dx dy : Nat} {a1 a2 b1 b2 c1 c2 d1 d2 : Int} (H : P8 ax ay bx by' cx cy dx dy a1 a2 b1 b2 c1 c2 d1 d2) :
   ∃ A B, runA GIS 0 A B (codeOf Tryz.f210) (init 300 [.agg [.flt .f64 ax, .flt .f64 ay, .flt .f64 bx, .flt .f64 by'], .agg [.flt .f64 cx, .flt .f64 cy, .flt .f64 dx, .flt .f64 dy]] [] 0) (endK GIS.E.T Tryz.f210.results.toList fun _ v => eqv v (.bool (decide (Isec a1 a2 b1 b2 c1 c2 d1 d2)))) := by
 refine ⟨_, _, (vc_isec _ (yMeet a2 b2 c2 d2) (yMeet a2 b2 c2 d2 ∧ yMeet a1 b1 c1 d1) (yMeet a2 b2 c2 d2 ∧ yMeet a1 b1 c1 d1 ∧ noEnds a1 a2 b1 b2 c1 c2 d1 d2)
   (yMeet a2 b2 c2 d2 ∧ yMeet a1 b1 c1 d1 ∧ noEnds a1 a2 b1 b2 c1 c2 d1 d2 ∧ xp (c1 - a1) (c2 - a2) (b1 - a1) (b2 - a2) ≠ 0)
   (yMeet a2 b2 c2 d2 ∧ yMeet a1 b1 c1 d1 ∧ noEnds a1 a2 b1 b2 c1 c2 d1 d2 ∧ xp (c1 - a1) (c2 - a2) (b1 - a1) (b2 - a2) ≠ 0 ∧ xp (b1 - a1) (b2 - a2) (d1 - c1) (d2 - c2) ≠ 0) ax ay bx by' cx cy dx dy).mpr ?_⟩
 obtain ⟨⟨sa1, sa2, sb1, sb2⟩, sc1, sc2, sd1, sd2⟩ := H.s
 obtain ⟨k1, f1, n1⟩ := sub_w H.cx H.ax sc1 sa1
 obtain ⟨k2, f2, n2⟩ := sub_w H.cy H.ay sc2 sa2
 obtain ⟨k3, f3, n3⟩ := sub_w H.bx H.ax sb1 sa1
 obtain ⟨k4, f4, n4⟩ := sub_w H.by' H.ay sb2 sa2
 obtain ⟨k5, f5, n5⟩ := sub_w H.dx H.cx sd1 sc1
 obtain ⟨k6, f6, n6⟩ := sub_w H.dy H.cy sd2 sc2
 obtain ⟨k7, f7, _⟩ := sub_w H.cx H.bx sc1 sb1
 obtain ⟨k8, f8, _⟩ := sub_w H.cy H.by' sc2 sb2
 obtain ⟨u1, u2, u3, fu, nu⟩ := cr_w f1 f2 f3 f4 n1 n2 n3 n4
 obtain ⟨t1, t2, t3, ft, nt⟩ := cr_w f1 f2 f5 f6 n1 n2 n5 n6
 obtain ⟨w1, w2, w3, fw, nw⟩ := cr_w f3 f4 f5 f6 n3 n4 n5 n6
 simp only [eqv]
 refine ⟨⟨trivial, 0, trivial, by simp⟩, fun _ _ => ⟨?_, fun _ h1 => ⟨?_, fun _ h2 => ⟨?_, fun _ h3 => ?_⟩⟩⟩⟩
 · rw [fgt_I H.ay H.by', fgt_I H.cy H.dy, fgt_I H.by' H.cy, flt_I H.ay H.dy, fgt_I H.by' H.dy, flt_I H.ay H.cy, fgt_I H.ay H.cy, flt_I H.by' H.dy, fgt_I H.ay H.dy, flt_I H.by' H.cy]
   clear fu ft fw nu nt nw u1 u2 u3 t1 t2 t3 w1 w2 w3 f1 f2 f3 f4 f5 f6 f7 f8 k1 k2 k3 k4 k5 k6 k7 k8 n1 n2 n3 n4 n5 n6
   repeat' (first | (intro h) | (refine And.intro ?_ ?_))
   all_goals simp only [decide_eq_true_eq, decide_eq_false_iff_not, Int.not_lt] at *
   all_goals first
     | (intro hh; have := hh.1; unfold yMeet at this; omega)
     | exact ⟨0, by unfold yMeet; omega, by simp⟩
 · rw [fgt_I H.ax H.bx, fgt_I H.cx H.dx, fgt_I H.bx H.cx, flt_I H.ax H.dx, fgt_I H.bx H.dx, flt_I H.ax H.cx, fgt_I H.ax H.cx, flt_I H.bx H.dx, fgt_I H.ax H.dx, flt_I H.bx H.cx]
   clear fu ft fw nu nt nw u1 u2 u3 t1 t2 t3 w1 w2 w3 f1 f2 f3 f4 f5 f6 f7 f8 k1 k2 k3 k4 k5 k6 k7 k8 n1 n2 n3 n4 n5 n6
   repeat' (first | (intro h) | (refine And.intro ?_ ?_))
   all_goals simp only [decide_eq_true_eq, decide_eq_false_iff_not, Int.not_lt] at *
   all_goals first
     | (intro hh; have := hh.2.1; unfold yMeet at this; omega)
     | exact ⟨0, ⟨h1, by unfold yMeet; omega⟩, by simp⟩
 · rw [feq_I H.ax H.cx, feq_I H.ay H.cy, feq_I H.ax H.dx, feq_I H.ay H.dy, feq_I H.bx H.cx, feq_I H.by' H.cy, feq_I H.bx H.dx, feq_I H.by' H.dy]
   clear fu ft fw nu nt nw u1 u2 u3 t1 t2 t3 w1 w2 w3 f1 f2 f3 f4 f5 f6 f7 f8 k1 k2 k3 k4 k5 k6 k7 k8 n1 n2 n3 n4 n5 n6
   refine ⟨fun e => ?_, fun e1 => ⟨fun e => ?_, fun e2 => ⟨fun e => ?_, fun e3 => ⟨fun e => ?_, fun e4 => ⟨0, ⟨h2.1, h2.2, fun hh => ?_⟩, by simp⟩⟩⟩⟩⟩
   · exact decide_eq_true ⟨h2.1, h2.2, .inl fun hn => hn (.inl (by simpa using e))⟩
   · exact decide_eq_true ⟨h2.1, h2.2, .inl fun hn => hn (.inr (.inl (by simpa using e)))⟩
   · exact decide_eq_true ⟨h2.1, h2.2, .inl fun hn => hn (.inr (.inr (.inl (by simpa using e))))⟩
   · exact decide_eq_true ⟨h2.1, h2.2, .inl fun hn => hn (.inr (.inr (.inr (by simpa using e))))⟩
   · simp at e1 e2 e3 e4
     rcases hh with ⟨g1, g2⟩ | ⟨g1, g2⟩ | ⟨g1, g2⟩ | ⟨g1, g2⟩
     · exact e1 g1 g2
     · exact e2 g1 g2
     · exact e3 g1 g2
     · exact e4 g1 g2
 · simp only [k1, k2, k3, k4, k5, k6, k7, k8, u1, u2, u3, t1, t2, t3, w1, w2, w3, true_and, zt fu, zt fw, le0 f1, le0 f2, le0 f7, le0 f8]
   refine ⟨⟨0, h3, by simp⟩, fun _ h3 => ⟨⟨fun h0 => ?_, fun h0 => ?_⟩, fun _ h4 => ⟨?_, fun _ h4 => ⟨⟨fun h0 => ?_, fun h0 => ?_⟩, fun _ h5 => ?_⟩⟩⟩⟩
   · have hu := of_decide_eq_true h0
     rw [wh_FI H.ax, wh_FI H.ay, wh_FI H.bx, wh_FI H.by', wh_FI H.cx, wh_FI H.cy, wh_FI H.dx, wh_FI H.dy]
     have hp1 : Pts ax ay bx by' cx cy a1 a2 b1 b2 c1 c2 := by
       unfold small at *
       exact ⟨H.ax, H.ay, H.bx, H.by', H.cx, H.cy, by omega, by omega, by omega, by omega, by omega, by omega⟩
     have hp2 : Pts ax ay bx by' dx dy a1 a2 b1 b2 d1 d2 := by
       unfold small at *
       exact ⟨H.ax, H.ay, H.bx, H.by', H.dx, H.dy, by omega, by omega, by omega, by omega, by omega, by omega⟩
     have hh : ∀ a b c : Int, ((!(decide (c - a ≤ 0) == decide (c - b ≤ 0))) = true ↔ half a b c) := by
       intro a b c
       by_cases g1 : c - a ≤ 0 <;> by_cases g2 : c - b ≤ 0 <;> simp [g1, g2] <;> (unfold half; omega)
     refine ⟨fun e => decide_eq_true ⟨h3.1, h3.2.1, .inr (.inl ⟨hu, .inl ((hh _ _ _).1 e)⟩)⟩, fun e => ⟨fun e' => ⟨hp1, fun o => decide_eq_true ⟨h3.1, h3.2.1, .inr (.inl ⟨hu, .inr (.inr (.inl (of_decide_eq_true o)))⟩)⟩, fun o => ⟨hp2, ?_⟩⟩, fun e' => decide_eq_true ⟨h3.1, h3.2.1, .inr (.inl ⟨hu, .inr (.inl ((hh _ _ _).1 ?_))⟩)⟩⟩⟩
     · refine decide_eq_decide.2 ⟨fun od => ⟨h3.1, h3.2.1, .inr (.inl ⟨hu, .inr (.inr (.inr od))⟩)⟩, fun hi => ?_⟩
       rcases hi.2.2 with g | ⟨_, g | g | g | g⟩ | g
       · exact absurd h3.2.2 g
       · rw [(hh _ _ _).2 g] at e; cases e
       · rw [(hh _ _ _).2 g] at e'; cases e'
       · exact absurd g (of_decide_eq_false o)
       · exact g
       · exact absurd hu g.1
     · revert e'
       cases (decide (c2 - a2 ≤ 0) == decide (c2 - b2 ≤ 0)) <;> simp
   · exact ⟨0, ⟨h3.1, h3.2.1, h3.2.2, of_decide_eq_false h0⟩, trivial⟩
   · exact ⟨0, h4, trivial⟩
   · have hw := of_decide_eq_true h0
     refine decide_eq_false fun hi => ?_
     rcases hi.2.2 with g | g | g
     · exact g h4.2.2.1
     · exact h4.2.2.2 g.1
     · exact g.2.1 hw
   · exact ⟨0, ⟨h4.1, h4.2.1, h4.2.2.1, h4.2.2.2, of_decide_eq_false h0⟩, trivial⟩
   · intro r hr
     obtain ⟨x1, x2, x3⟩ := tu ft fw h5.2.2.2.2 nt nw hr
     obtain ⟨y1, y2, y3⟩ := tu fu fw h5.2.2.2.2 nu nw hr
     refine ⟨x1, y1, ?_⟩
     rw [x2, y2]
     have bad : ¬ (0 ≤ xp (c1 - a1) (c2 - a2) (d1 - c1) (d2 - c2) * xp (b1 - a1) (b2 - a2) (d1 - c1) (d2 - c2) ∧ (xp (c1 - a1) (c2 - a2) (d1 - c1) (d2 - c2)).natAbs ≤ (xp (b1 - a1) (b2 - a2) (d1 - c1) (d2 - c2)).natAbs ∧
         0 ≤ xp (c1 - a1) (c2 - a2) (b1 - a1) (b2 - a2) * xp (b1 - a1) (b2 - a2) (d1 - c1) (d2 - c2) ∧ (xp (c1 - a1) (c2 - a2) (b1 - a1) (b2 - a2)).natAbs ≤ (xp (b1 - a1) (b2 - a2) (d1 - c1) (d2 - c2)).natAbs) → decide (Isec a1 a2 b1 b2 c1 c2 d1 d2) = false := by
       intro hb
       refine decide_eq_false fun hi => ?_
       rcases hi.2.2 with g | g | g
       · exact g h5.2.2.1
       · exact h5.2.2.2.1 g.1
       · exact hb g.2.2
     refine ⟨fun g1 => ⟨fun g2 => ⟨fun g3 => ⟨fun g4 => ?_, fun g4 => ?_⟩, fun g3 => ?_⟩, fun g2 => ?_⟩, fun g1 => ?_⟩
     · have g3 := of_decide_eq_true g3
       rw [y3 g3] at g4
       exact bad fun hb => by simp [hb.2.2.2] at g4
     · have g3 := of_decide_eq_true g3
       have g1 := of_decide_eq_true g1
       rw [y3 g3] at g4
       rw [x3 g1] at g2
       refine decide_eq_true ⟨h5.1, h5.2.1, .inr (.inr ⟨h5.2.2.2.1, h5.2.2.2.2, g1, of_decide_eq_true g2, g3, by simpa using g4⟩)⟩
     · exact bad fun hb => of_decide_eq_false g3 hb.2.2.1
     · have g1 := of_decide_eq_true g1
       rw [x3 g1] at g2
       exact bad fun hb => of_decide_eq_false g2 hb.2.1
     · exact bad fun hb => of_decide_eq_false g1 hb.1
noncomputable def isecF : PF := fun
 | [.agg [.flt .f64 ax, .flt .f64 ay, .flt .f64 bx, .flt .f64 by'], .agg [.flt .f64 cx, .flt .f64 cy, .flt .f64 dx, .flt .f64 dy]] =>
   some (.bool (decide (Isec (wh ax) (wh ay) (wh bx) (wh by') (wh cx) (wh cy) (wh dx) (wh dy))), some (P8 ax ay bx by' cx cy dx dy (wh ax) (wh ay) (wh bx) (wh by') (wh cx) (wh cy) (wh dx) (wh dy)))
 | _ => none
theorem isec : PureOk Tryz.prog 210 isecF := by
 refine pure_of_vc gIS Tryz.func210 rfl (by kernel_rfl) ?_
 intro args v p h hp
 unfold isecF at h
 split at h
 · injection h with h; injection h with h1 h2; subst h1; subst h2
   exact ⟨rfl, isec_run hp⟩
 · cases h
noncomputable def GC : Ctx := ⟨⟨tys, []⟩, [(90, pureCon rayF), (214, pureCon eqZeroF), (80, pureCon fromPF)]⟩
theorem gC : CtxOk Tryz.prog GC := ⟨⟨tysOk, FlatsOk.nil⟩, GamOk.cons (.pure ray) (GamOk.cons (.pure eqZero) (GamOk.cons (.pure fromP) GamOk.nil)), by kernel_rfl⟩
def PW (ax ay bx by' px py : Nat) : Prop := Pts ax ay bx by' px py (wh ax) (wh ay) (wh bx) (wh by') (wh px) (wh py)
noncomputable def onW (ax ay bx by' px py : Nat) : Bool := decide (On (wh ax) (wh ay) (wh bx) (wh by') (wh px) (wh py))
noncomputable def sHasSF : PF := fun
 | [.agg [.flt .f64 ax, .flt .f64 ay, .flt .f64 bx, .flt .f64 by'], .agg [.flt .f64 cx, .flt .f64 cy, .flt .f64 dx, .flt .f64 dy]] => some (.bool (onW ax ay bx by' cx cy && onW ax ay bx by' dx dy), some (PW ax ay bx by' cx cy ∧ PW ax ay bx by' dx dy))
 | _ => none
theorem vc_sHasS (R : SV → Prop) (ax ay bx by' cx cy dx dy : Nat) : runA GC 0 [] [] (codeOf Tryz.f231) (init Tryz.f231.ntmps [.agg [.flt .f64 ax, .flt .f64 ay, .flt .f64 bx, .flt .f64 by'], .agg [.flt .f64 cx, .flt .f64 cy, .flt .f64 dx, .flt .f64 dy]] [] 0) (endK GC.E.T Tryz.f231.results.toList fun _ v => R v) = (
 Pts ax ay bx by' cx cy (wh ax) (wh ay) (wh bx) (wh by') (wh cx) (wh cy) ∧ (decide (Go.Geo.On (wh ax)
(wh ay) (wh bx) (wh by') (wh cx) (wh cy)) = true → Pts ax ay bx by' dx dy (wh ax) (wh ay)
(wh bx) (wh by') (wh dx) (wh dy) ∧ R (SV.bool (decide (Go.Geo.On (wh ax) (wh ay) (wh bx) (wh by')
(wh dx) (wh dy))))) ∧ (decide (Go.Geo.On (wh ax) (wh ay) (wh bx) (wh by') (wh cx) (wh cy)) = false → R
 SV.ff)) := by kernel_rfl
theorem sHasS : PureOk Tryz.prog 231 sHasSF := by
 refine pure_of_vc gC Tryz.func231 rfl (by kernel_rfl) ?_
 intro args v p h hp
 unfold sHasSF at h
 split at h
 · rename_i ax ay bx by' cx cy dx dy
   injection h with h; injection h with h1 h2; subst h1; subst h2
   have hp : PW ax ay bx by' cx cy ∧ PW ax ay bx by' dx dy := hp
   refine ⟨rfl, _, _, (vc_sHasS _ ax ay bx by' cx cy dx dy).mpr ?_⟩
   simp only [eqv]
   refine ⟨hp.1, fun h => ⟨hp.2, ?_⟩, fun h => ?_⟩
   · unfold onW; rw [h, Bool.true_and]
   · unfold onW; rw [h, Bool.false_and]
 · cases h
noncomputable def sCollF : PF := fun
 | [.agg [.flt .f64 ax, .flt .f64 ay, .flt .f64 bx, .flt .f64 by'], .agg [.flt .f64 px, .flt .f64 py]] => some (.bool (decide (xp (wh px - wh ax) (wh py - wh ay) (wh bx - wh ax) (wh by' - wh ay) = 0)), some (P8 ax ay bx by' px py px py (wh ax) (wh ay) (wh bx) (wh by') (wh px) (wh py) (wh px) (wh py)))
 | _ => none
theorem vc_sColl (R : SV → Prop) (ax ay bx by' px py : Nat) : runA GC 0 [] [] (codeOf Tryz.f211) (init Tryz.f211.ntmps [.agg [.flt .f64 ax, .flt .f64 ay, .flt .f64 bx, .flt .f64 by'], .agg [.flt .f64 px, .flt .f64 py]] [] 0) (endK GC.E.T Tryz.f211.results.toList fun _ v => R v) = (
 fok BinOp.sub .f64 px ax ∧ fok BinOp.sub .f64 py ay ∧ true = true ∧ fok BinOp.sub .f64 bx ax ∧ fok BinOp.sub .f64 by' ay ∧ true = true ∧ fok BinOp.mul .f64 (fop BinOp.sub .f64 px ax) (fop BinOp.sub .f64 by'
 ay) ∧ fok BinOp.mul .f64 (fop BinOp.sub .f64 py ay) (fop BinOp.sub .f64 bx ax) ∧ fok BinOp.sub .f64 (fop BinOp.mul .f64 (fop BinOp.sub .f64 px ax) (fop BinOp.sub .f64 by' ay)) (fop BinOp.mul .f64
(fop BinOp.sub .f64 py ay) (fop BinOp.sub .f64 bx ax)) ∧ R (SV.bool !(fLt .f64 (fop BinOp.sub .f64 (fop BinOp.mul .f64 (fop BinOp.sub .f64 px ax) (fop BinOp.sub .f64 by' ay)) (fop BinOp.mul .f64
(fop BinOp.sub .f64 py ay) (fop BinOp.sub .f64 bx ax))) 0 || fGt .f64 (fop BinOp.sub .f64 (fop BinOp.mul .f64 (fop BinOp.sub .f64 px ax) (fop BinOp.sub .f64 by' ay)) (fop BinOp.mul .f64
(fop BinOp.sub .f64 py ay) (fop BinOp.sub .f64 bx ax))) 0))) := by kernel_rfl
theorem sColl : PureOk Tryz.prog 211 sCollF := by
 refine pure_of_vc gC Tryz.func211 rfl (by kernel_rfl) ?_
 intro args v p h hp
 unfold sCollF at h
 split at h
 · rename_i ax ay bx by' px py
   injection h with h; injection h with h1 h2; subst h1; subst h2
   have hp : P8 ax ay bx by' px py px py (wh ax) (wh ay) (wh bx) (wh by') (wh px) (wh py) (wh px) (wh py) := hp
   refine ⟨rfl, _, _, (vc_sColl _ ax ay bx by' px py).mpr ?_⟩
   obtain ⟨⟨sa1, sa2, sb1, sb2⟩, sc1, sc2, _, _⟩ := hp.s
   obtain ⟨k1, f1, n1⟩ := sub_w hp.cx hp.ax sc1 sa1
   obtain ⟨k2, f2, n2⟩ := sub_w hp.cy hp.ay sc2 sa2
   obtain ⟨k3, f3, n3⟩ := sub_w hp.bx hp.ax sb1 sa1
   obtain ⟨k4, f4, n4⟩ := sub_w hp.by' hp.ay sb2 sa2
   obtain ⟨u1, u2, u3, fu, nu⟩ := cr_w f1 f2 f3 f4 n1 n2 n3 n4
   exact ⟨k1, k2, rfl, k3, k4, rfl, u1, u2, u3, zt fu⟩
 · cases h
def fmin (x y : Nat) : Nat := if fGt .f64 x y = true then y else x
def fmax (x y : Nat) : Nat := if fGt .f64 x y = true then x else y
def sRectF : PF := fun
 | [.agg [.flt .f64 ax, .flt .f64 ay, .flt .f64 bx, .flt .f64 by']] => some (.agg [.flt .f64 (fmin ax bx), .flt .f64 (fmin ay by'), .flt .f64 (fmax ax bx), .flt .f64 (fmax ay by')], none)
 | _ => none
theorem vc_sRect (R : SV → Prop) (ax ay bx by' : Nat) : runA GC 0 [] [] (codeOf Tryz.f113) (init Tryz.f113.ntmps [.agg [.flt .f64 ax, .flt .f64 ay, .flt .f64 bx, .flt .f64 by']] [] 0) (endK GC.E.T Tryz.f113.results.toList fun _ v => R v) = (
(fGt .f64 ax bx = true → (fGt .f64 ay by' = true → R (SV.agg [SV.flt .f64 bx, SV.flt .f64 by', SV.flt .f64 ax, SV.flt .f64 ay])) ∧ (fGt .f64 ay by' = false → R (SV.agg [SV.flt .f64 bx, SV.flt .f64 ay, SV.flt .f64 ax, SV.flt .f64
 by']))) ∧ (fGt .f64 ax bx = false → (fGt .f64 ay by' = true → R (SV.agg [SV.flt .f64 ax, SV.flt .f64 by', SV.flt .f64 bx, SV.flt .f64 ay])) ∧ (fGt .f64 ay by' = false → R (SV.agg [SV.flt .f64 ax, SV.flt .f64 ay, SV.flt .f64 bx,
 SV.flt .f64 by'])))) := by kernel_rfl
theorem sRect : PureOk Tryz.prog 113 sRectF := by
 refine pure_of_vc gC Tryz.func113 rfl (by kernel_rfl) ?_
 intro args v p h hp
 unfold sRectF at h
 split at h
 · rename_i ax ay bx by'
   injection h with h; injection h with h1 h2; subst h1; subst h2
   clear hp
   refine ⟨rfl, _, _, (vc_sRect _ ax ay bx by').mpr ?_⟩
   simp only [eqv, eqvL, fkEq_self, fmin, fmax]
   grind
 · cases h
def sgn (n : Int) : Int := if 0 < n then 1 else if n < 0 then -1 else 0
def GMeet (a1 a2 b1 b2 c1 c2 d1 d2 : Int) : Prop := On a1 a2 b1 b2 c1 c2 ∨ On a1 a2 b1 b2 d1 d2 ∨ On c1 c2 d1 d2 a1 a2 ∨ On c1 c2 d1 d2 b1 b2 ∨
 (sgn (cross a1 a2 b1 b2 c1 c2) * sgn (cross a1 a2 b1 b2 d1 d2) < 0 ∧ sgn (cross c1 c2 d1 d2 a1 a2) * sgn (cross c1 c2 d1 d2 b1 b2) < 0)
instance (a b c d e f g h : Int) : Decidable (GMeet a b c d e f g h) := by unfold GMeet; infer_instance
def GCov (a1 a2 b1 b2 c1 c2 d1 d2 : Int) : Prop := On c1 c2 d1 d2 a1 a2 ∧ On c1 c2 d1 d2 b1 b2 ∧ ¬ On a1 a2 b1 b2 c1 c2 ∧ ¬ On a1 a2 b1 b2 d1 d2
instance (a b c d e f g h : Int) : Decidable (GCov a b c d e f g h) := by unfold GCov; infer_instance
def mn (g : Nat → Int) (k : Nat) : Nat → Int
 | 0 => g k
 | i + 1 => imin (mn g k i) (g (2 * i + k))
def mx (g : Nat → Int) (k : Nat) : Nat → Int
 | 0 => g k
 | i + 1 => imax (mx g k i) (g (2 * i + k))
def gRectL (len m : Nat) (g : Nat → Int) : Fam := ⟨Nat, fun i =>
 ⟨57, [(2, .ptr 1 0), (3, .ptr 2 0), (17, .slcc 0 len), (18, .int .i64 len), (19, .int .i64 i)], [(0, ⟨false, 28, .ints .i64 m g, 0⟩), (1, ⟨true, 29, .cells [.int .i64 0, .int .i64 0, .int .i64 0, .int .i64 0], 0⟩), (2, ⟨true, 29, .cells [.int .i64 (mn g 0 i), .int .i64 (mn g 1 i), .int .i64 (mx g 0 i), .int .i64 (mx g 1 i)], 0⟩)], 3⟩, fun i => i ≤ len, fun i => len - i⟩
noncomputable def gRectC : List SV → RdM
 | [.slcc n len] => .read n fun o0 => (match intsFrom .i64 o0.c with
   | some (m0, g) => .ret ⟨[.slcc 0 len], [(0, ⟨false, 28, .ints .i64 m0 g, 0⟩)], .agg [.int .i64 (mn g 0 len), .int .i64 (mn g 1 len), .int .i64 (mx g 0 len), .int .i64 (mx g 1 len)], [], [], some (1 ≤ len ∧ 2 * len ≤ m0 ∧ len ≤ 1000000)⟩
   | none => .fail)
 | _ => .fail
theorem vc_gRect (len : Nat) (m0 : Nat) (g : Nat → Int) : runA G0 1 [(5, gRectL len m0 g)] [] (codeOf Tryz.f27) (init Tryz.f27.ntmps [.slcc 0 len] [(0, ⟨false, 28, .ints .i64 (m0) g, 0⟩)] 1) (endK G0.E.T Tryz.f27.results.toList fun S v => postP 1 ⟨[.slcc 0 len], [(0, ⟨false, 28, .ints .i64 (m0) g, 0⟩)], .agg [.int .i64 (mn g 0 len), .int .i64 (mn g 1 len), .int .i64 (mx g 0 len), .int .i64 (mx g 1 len)], [], [], some (1 ≤ len ∧ 2 * len ≤ m0 ∧ len ≤ 1000000)⟩ S v) = (
(((↑len : Int) == (0 : Int)) = true → ((0 : Int) = mn g 0 len ∧ (0 : Int) = mn g 1 len ∧ (0 : Int) = mx g 0 len ∧ (0 : Int) = mx g 1 len ∧ True) ∧
 True) ∧ (((↑len : Int) == (0 : Int)) = false → (((0 : Int) ≤ 0 ∧ 0 < (↑len : Int)) ∧ 1 ≤ m0) ∧ 2 ≤ m0 ∧ (((0 : Int) ≤ 0 ∧ 0 < (↑len : Int)) ∧ 1 ≤ m0) ∧ 2 ≤ m0 ∧ true = true ∧ (∃ (i :
 Nat), i ≤ len ∧ ((True ∧ 0 = 0) ∧ (True ∧ 0 = 0) ∧ (True ∧ len = len) ∧ (↑len : Int) = (↑len : Int) ∧ 0 = (↑i : Int) ∧ True) ∧ True ∧ (m0 ≤ m0 ∧ ∀ (i : Nat), i < m0 → g i = g i) ∧ True ∧ (29 = 29 ∧ 0 = 0 ∧ (0 : Int) = 0 ∧ (0 : Int) = 0 ∧ (0 : Int) = 0 ∧ (0 : Int) = 0 ∧ True) ∧ True ∧ (29 = 29 ∧ 0 = 0 ∧ g 0 = mn g 0 i ∧ g 1 = mn g 1 i ∧ g 0 = mx g 0 i ∧ g 1 = mx g 1 i ∧ True) ∧ True) ∧ ∀ (i : Nat), i ≤ len → (decide ((↑i : Int) < (↑len : Int)) = true → ((0 ≤ (↑i :
 Int) ∧ (↑i : Int) < (↑len : Int)) ∧ 1 ≤ m0) ∧ 0 + Int.toNat (↑i : Int) * 2 + 2 ≤ m0 ∧ (((0 : Int) ≤ 0 ∧ (0 : Int) < 2) ∧ True) ∧ (((0 : Int) ≤ 0 ∧ (0 : Int) < 2) ∧ True) ∧ (((0 : Int) ≤
(0 : Int) ∧ (0 : Int) < 2) ∧ True) ∧ (((0 : Int) ≤ 0 ∧ (0 : Int) < 2) ∧ True) ∧ true = true ∧ (((0 : Int) ≤ 1 ∧ (1 : Int) < 2) ∧ True) ∧ (((0 : Int) ≤ 1 ∧ (1 : Int) < 2) ∧ True) ∧ (((0 : Int) ≤
(1 : Int) ∧ (1 : Int) < 2) ∧ True) ∧ (((0 : Int) ≤ 1 ∧ (1 : Int) < 2) ∧ True) ∧ true = true ∧ ∃ (i' : Nat), i' ≤ len ∧ len - i' < len - i ∧ ((True ∧ 0 = 0) ∧ (True ∧ 0 = 0) ∧ (True ∧ len = len)
∧ (↑len : Int) = (↑len : Int) ∧ Go.IntKind.wrap .i64 ((↑i : Int) + 1) = (↑i' : Int) ∧ True) ∧ True ∧ (m0 ≤ m0 ∧ ∀ (i : Nat), i < m0 → g i = g i) ∧ True ∧ (29 = 29 ∧ 0 = 0 ∧ (0 : Int) = 0 ∧ (0 : Int) =
(0 : Int) ∧ (0 : Int) = 0 ∧ (0 : Int) = 0 ∧ True) ∧ True ∧ (29 = 29 ∧ 0 = 0 ∧ imin (mn g 0 i) (g (0 + Int.toNat (↑i : Int) * 2)) = mn g
0 i' ∧ imin (mn g 1 i) (g (0 + Int.toNat (↑i : Int) * 2 + 1)) = mn g 1 i' ∧ imax (mx g 0 i) (g (0 + Int.toNat (↑i : Int)
* 2)) = mx g 0 i' ∧ imax (mx g 1 i) (g (0 + Int.toNat (↑i : Int) * 2 + 1)) = mx g 1 i' ∧ True) ∧ True) ∧ (decide ((↑i : Int) < (↑len :
 Int)) = false → (mn g 0 i = mn g 0 len ∧ mn g 1 i = mn g 1 len ∧ mx g 0 i = mx g 0 len ∧
 mx g 1 i = mx g 1 len ∧ True) ∧ True))) := by kernel_rfl
theorem gRect : ConOk Tryz.prog 27 (conR gRectC) := by
 refine con_of_vc g0 Tryz.func27 rfl (by kernel_rfl) fun args => ?_
 unfold gRectC
 split
 · rename_i n len
   intro o0
   show RdM.All _ (match intsFrom .i64 o0.c with | some (m, g) => _ | none => _) _
   split
   · rename_i m0 g hm0
     intro ho
     replace ho : 1 ≤ len ∧ 2 * len ≤ m0 ∧ len ≤ 1000000 := ho
     refine ⟨?_, _, _, (vc_gRect len m0 g).mpr ?_⟩
     · refine okFlag_mk rfl ⟨?_, ⟨trivial, (contR_ints hm0).1, trivial⟩⟩
       simp [eqvRL, eqvR, sgSig, fsts, nth, sameN_self]
     · refine ⟨fun h => ?_, fun _ => ⟨by omega, by omega, by omega, by omega, rfl, ⟨0, by simp [mn, mx]⟩, fun i hi => ⟨fun h => ?_, fun h => ?_⟩⟩⟩
       · simp at h; omega
       · have h := of_decide_eq_true h
         have e : 0 + (i : Int).toNat * 2 = 2 * i := by omega
         have hw : IntKind.i64.wrap ((i : Int) + 1) = ((i + 1 : Nat) : Int) := by rw [wrap64 (by omega) (by omega)]; omega
         rw [e, hw]
         refine ⟨by omega, by omega, by simp, by simp, by simp, by simp, rfl, by simp, by simp, by simp, by simp, rfl, i + 1, by omega, by omega, by simp [mn, mx]⟩
       · have h := of_decide_eq_false h
         have : i = len := by omega
         subst this
         simp
   · trivial
 · trivial
def Whl (g : Nat → Nat) (z : Nat → Int) (m : Nat) : Prop := ∀ j, j < m → FI (g j) (z j) ∧ (z j).natAbs ≤ 4194304
def cwZ (z : Nat → Int) (len : Nat) : Nat → Int
 | 0 => 0
 | i + 1 => cwZ z len i + (z (2 * nx len i) - z (2 * i)) * (z (2 * nx len i + 1) + z (2 * i + 1))
def zcZ (z : Nat → Int) (len i : Nat) : Int :=
 (z (2 * nx len i) - z (2 * i)) * (z (2 * nx2 len i + 1) - z (2 * nx len i + 1)) - (z (2 * nx len i + 1) - z (2 * i + 1)) * (z (2 * nx2 len i) - z (2 * nx len i))
def loZ (z : Nat → Int) (k : Nat) : Nat → Int
 | 0 => 0
 | i + 1 => if i = 0 ∨ z (2 * i + k) < loZ z k i then z (2 * i + k) else loZ z k i
def hiZ (z : Nat → Int) (k : Nat) : Nat → Int
 | 0 => 0
 | i + 1 => if i = 0 then z (2 * i + k) else if z (2 * i + k) < loZ z k i then hiZ z k i else if hiZ z k i < z (2 * i + k) then z (2 * i + k) else hiZ z k i
theorem add_F {x y : Nat} {a b : Int} (hx : FI x a) (hy : FI y b) (h : (a + b).natAbs < 2 ^ 53) : fok .add .f64 x y ∧ FI (fop .add .f64 x y) (a + b) := by
 obtain ⟨r, h1, h2⟩ := FI_add hx hy h
 obtain ⟨h3, h4⟩ := fop_of (op := .add) h1
 exact ⟨h3, by rw [h4]; exact h2⟩
theorem sub_F {x y : Nat} {a b : Int} (hx : FI x a) (hy : FI y b) (h : (a - b).natAbs < 2 ^ 53) : fok .sub .f64 x y ∧ FI (fop .sub .f64 x y) (a - b) := by
 obtain ⟨r, h1, h2⟩ := FI_sub hx hy h
 obtain ⟨h3, h4⟩ := fop_of (op := .sub) h1
 exact ⟨h3, by rw [h4]; exact h2⟩
theorem natAbs_mul_le {a b : Int} {m n : Nat} (ha : a.natAbs ≤ m) (hb : b.natAbs ≤ n) : (a * b).natAbs ≤ m * n := by
 rw [Int.natAbs_mul]; exact Nat.mul_le_mul ha hb
theorem natAbs_sub_le {a b : Int} {m : Nat} (ha : a.natAbs ≤ m) (hb : b.natAbs ≤ m) : (a - b).natAbs ≤ 2 * m := by omega
theorem natAbs_add_le' {a b : Int} {m : Nat} (ha : a.natAbs ≤ m) (hb : b.natAbs ≤ m) : (a + b).natAbs ≤ 2 * m := by omega
theorem nx_lt {len i : Nat} (h : i < len) : nx len i < len := by unfold nx; split <;> omega
theorem nx2_lt {len i : Nat} (h : i < len) (h2 : 2 ≤ len) : nx2 len i < len := by unfold nx2; split; omega; split <;> omega
section
variable {g : Nat → Nat} {z : Nat → Int} {len : Nat} (hl : len ≤ 64) (hg : Whl g z (2 * len))
include hg
theorem lo_F {k : Nat} (hk : k < 2) : ∀ i, i ≤ len → FI (rlo g k i) (loZ z k i) ∧ (loZ z k i).natAbs ≤ 4194304
 | 0, _ => ⟨zero_FI, by simp [loZ]⟩
 | i + 1, h => by
   obtain ⟨h1, h2⟩ := lo_F hk i (by omega)
   obtain ⟨h3, h4⟩ := hg (2 * i + k) (by omega)
   show FI (if i = 0 ∨ fLt .f64 (g (2 * i + k)) (rlo g k i) = true then g (2 * i + k) else rlo g k i) (if i = 0 ∨ z (2 * i + k) < loZ z k i then z (2 * i + k) else loZ z k i) ∧ (if i = 0 ∨ z (2 * i + k) < loZ z k i then z (2 * i + k) else loZ z k i).natAbs ≤ 4194304
   rw [flt_I h3 h1]
   by_cases hc : i = 0 ∨ z (2 * i + k) < loZ z k i
   · rw [if_pos hc, if_pos (by simpa using hc)]; exact ⟨h3, h4⟩
   · rw [if_neg hc, if_neg (by simpa using hc)]; exact ⟨h1, h2⟩
theorem hi_F {k : Nat} (hk : k < 2) : ∀ i, i ≤ len → FI (rhi g k i) (hiZ z k i) ∧ (hiZ z k i).natAbs ≤ 4194304
 | 0, _ => ⟨zero_FI, by simp [hiZ]⟩
 | i + 1, h => by
   obtain ⟨h1, h2⟩ := hi_F hk i (by omega)
   obtain ⟨h1', h2'⟩ := lo_F hg hk i (by omega)
   obtain ⟨h3, h4⟩ := hg (2 * i + k) (by omega)
   show FI (hiStep i (g (2 * i + k)) (rlo g k i) (rhi g k i)) (hiZ z k (i + 1)) ∧ (hiZ z k (i + 1)).natAbs ≤ 4194304
   unfold hiStep hiZ
   rw [flt_I h3 h1', fgt_I h3 h1]
   by_cases c0 : i = 0
   · rw [if_pos c0, if_pos c0]; exact ⟨h3, h4⟩
   rw [if_neg c0, if_neg c0]
   by_cases c1 : z (2 * i + k) < loZ z k i
   · rw [if_pos c1, if_pos (decide_eq_true c1)]; exact ⟨h1, h2⟩
   rw [if_neg c1, if_neg (by simpa using c1)]
   by_cases c2 : hiZ z k i < z (2 * i + k)
   · rw [if_pos c2, if_pos (decide_eq_true c2)]; exact ⟨h3, h4⟩
   · rw [if_neg c2, if_neg (by simpa using c2)]; exact ⟨h1, h2⟩
theorem zc_F {i : Nat} (hi : i < len) (h2 : 2 ≤ len) : zcOk (g (2 * i)) (g (2 * i + 1)) (g (2 * nx len i)) (g (2 * nx len i + 1)) (g (2 * nx2 len i)) (g (2 * nx2 len i + 1)) ∧
   FI (zcF g len i) (zcZ z len i) := by
 have n1 := nx_lt hi
 have n2 := nx2_lt hi h2
 obtain ⟨fa, ba⟩ := hg (2 * i) (by omega)
 obtain ⟨fa', ba'⟩ := hg (2 * i + 1) (by omega)
 obtain ⟨fb, bb⟩ := hg (2 * nx len i) (by omega)
 obtain ⟨fb', bb'⟩ := hg (2 * nx len i + 1) (by omega)
 obtain ⟨fc, bc⟩ := hg (2 * nx2 len i) (by omega)
 obtain ⟨fc', bc'⟩ := hg (2 * nx2 len i + 1) (by omega)
 have s1 := natAbs_sub_le bb ba
 have s2 := natAbs_sub_le bc' bb'
 have s3 := natAbs_sub_le bb' ba'
 have s4 := natAbs_sub_le bc bb
 have p1 := natAbs_mul_le s1 s2
 have p2 := natAbs_mul_le s3 s4
 obtain ⟨k1, e1⟩ := sub_F fb fa (by omega)
 obtain ⟨k2, e2⟩ := sub_F fc' fb' (by omega)
 obtain ⟨k3, e3⟩ := sub_F fb' fa' (by omega)
 obtain ⟨k4, e4⟩ := sub_F fc fb (by omega)
 obtain ⟨k5, e5⟩ := mul_of e1 e2 (by omega)
 obtain ⟨k6, e6⟩ := mul_of e3 e4 (by omega)
 obtain ⟨k7, e7⟩ := sub_F e5 e6 (by omega)
 exact ⟨⟨k1, k2, k5, k3, k4, k6, k7⟩, e7⟩
include hl in
theorem cw_F : ∀ i, i ≤ len → FI (cwF g len i) (cwZ z len i) ∧ (cwZ z len i).natAbs ≤ i * 70368744177664 ∧
   (i < len → cwOk (cwF g len i) (g (2 * i)) (g (2 * i + 1)) (g (2 * nx len i)) (g (2 * nx len i + 1)) ∧ FI (cwF g len (i + 1)) (cwZ z len (i + 1)) ∧ (cwZ z len (i + 1)).natAbs ≤ (i + 1) * 70368744177664)
 | i, h => by
   have base : FI (cwF g len i) (cwZ z len i) ∧ (cwZ z len i).natAbs ≤ i * 70368744177664 := by
     cases i with
     | zero => exact ⟨zero_FI, by simp [cwZ]⟩
     | succ j => exact ((cw_F j (by omega)).2.2 (by omega)).2
   refine ⟨base.1, base.2, fun hi => ?_⟩
   have n1 := nx_lt hi
   obtain ⟨fa, ba⟩ := hg (2 * i) (by omega)
   obtain ⟨fa', ba'⟩ := hg (2 * i + 1) (by omega)
   obtain ⟨fb, bb⟩ := hg (2 * nx len i) (by omega)
   obtain ⟨fb', bb'⟩ := hg (2 * nx len i + 1) (by omega)
   have s1 := natAbs_sub_le bb ba
   have s2 := natAbs_add_le' bb' ba'
   have p1 := natAbs_mul_le s1 s2
   obtain ⟨k1, e1⟩ := sub_F fb fa (by omega)
   obtain ⟨k2, e2⟩ := add_F fb' fa' (by omega)
   obtain ⟨k3, e3⟩ := mul_of e1 e2 (by omega)
   obtain ⟨k4, e4⟩ := add_F base.1 e3 (by omega)
   exact ⟨⟨k1, k2, k3, k4⟩, e4, by show (cwZ z len i + _).natAbs ≤ _; omega⟩
include hl in
theorem ppOk_F (h2 : 2 ≤ len) : ppOk g len := fun i hi => ⟨((cw_F hl hg i (by omega)).2.2 hi).1, (zc_F hg hi h2).1⟩
end
theorem loZ_le {z : Nat → Int} {k : Nat} : ∀ {i j : Nat}, j < i → loZ z k i ≤ z (2 * j + k)
 | 0, _, h => by omega
 | i + 1, j, h => by
   unfold loZ
   split
   · rename_i hc
     by_cases e : j = i
     · subst e; exact Int.le_refl _
     · rcases hc with rfl | hc
       · omega
       · exact Int.le_trans (Int.le_of_lt hc) (loZ_le (by omega))
   · rename_i hc
     by_cases e : j = i
     · subst e; omega
     · exact loZ_le (by omega)
theorem loZ_at {z : Nat → Int} {k : Nat} : ∀ {i : Nat}, 0 < i → ∃ j, j < i ∧ loZ z k i = z (2 * j + k)
 | i + 1, _ => by
   unfold loZ
   split
   · exact ⟨i, by omega, rfl⟩
   · rename_i hc
     obtain ⟨j, h1, h2⟩ := loZ_at (z := z) (k := k) (i := i) (by omega)
     exact ⟨j, by omega, h2⟩
theorem hiZ_ge {z : Nat → Int} {k : Nat} : ∀ {i j : Nat}, j < i → z (2 * j + k) ≤ hiZ z k i
 | 0, _, h => by omega
 | i + 1, j, h => by
   have hl := fun (hi : 0 < i) => loZ_le (z := z) (k := k) (i := i) (j := 0) hi
   have hh := fun (hi : 0 < i) => hiZ_ge (z := z) (k := k) (i := i) (j := 0) hi
   unfold hiZ
   split
   · have : j = i := by omega
     subst this; exact Int.le_refl _
   · have hl := hl (by omega)
     have hh := hh (by omega)
     by_cases e : j = i
     · subst e
       split
       · omega
       · split <;> omega
     · have h3 := hiZ_ge (z := z) (k := k) (i := i) (j := j) (by omega)
       split
       · exact h3
       · split
         · omega
         · exact h3
theorem hiZ_at {z : Nat → Int} {k : Nat} : ∀ {i : Nat}, 0 < i → ∃ j, j < i ∧ hiZ z k i = z (2 * j + k)
 | i + 1, _ => by
   unfold hiZ
   split
   · exact ⟨i, by omega, rfl⟩
   · obtain ⟨j, h1, h2⟩ := hiZ_at (z := z) (k := k) (i := i) (by omega)
     split
     · exact ⟨j, by omega, h2⟩
     · split
       · exact ⟨i, by omega, rfl⟩
       · exact ⟨j, by omega, h2⟩
theorem whl_fI {g : Nat → Int} {m : Nat} (h : ∀ j, j < m → small (g j)) : Whl (fI g) g m := fun j hj => ⟨fi (h j hj), by have := h j hj; unfold small at this; omega⟩
def mz (g : Nat → Int) (dx dy : Int) (j : Nat) : Int := g j + if j % 2 = 0 then dx else dy
theorem pp_two {len : Nat} {cl : Bool} (h : ppBig len cl = true) : 2 ≤ len := (of_decide_eq_true h).1
end Go.Proofs.Tryz.Sx

namespace Go.Sx
def swC (p : List SV → Bool) (a b : Con) : Con := fun args rd nm => match p args with
 | true => a args rd nm
 | false => b args rd nm
theorem ConOk.sw {P : Program} {f : Nat} {a b : Con} {p : List SV → Bool} (ha : ConOk P f a) (hb : ConOk P f b) : ConOk P f (swC p a b) where
 calls := by
   intro W0 Fr U H ρ w nm args e hH hbd hn hc ho
   unfold swC at hc
   split at hc
   · exact ha.calls hH hbd hn hc ho
   · exact hb.calls hH hbd hn hc ho
 loc := by
   intro args rd rd' nm e hc hr
   unfold swC at hc ⊢
   split
   · rename_i hp
     rw [hp] at hc
     exact ha.loc hc hr
   · rename_i hp
     rw [hp] at hc
     exact hb.loc hc hr
def rwOk (o : Ob) (e es : Nat) : Bool := match o.rw with
 | true => Nat.beq o.elem e && Nat.beq o.es es
 | false => false
theorem obR_rw {σ : Sig} {o : Ob} {e es : Nat} {c' : Cont} (h : rwOk o e es = true) (hc : contR σ o.c c') : obR σ o ⟨true, e, c', es⟩ := by
 obtain ⟨rw, el, c, es'⟩ := o
 unfold rwOk at h
 cases rw with
 | false => cases h
 | true =>
   simp only [Bool.and_eq_true] at h
   exact ⟨Nat.eq_of_beq_eq_true h.1, Nat.eq_of_beq_eq_true h.2, hc⟩
end Go.Sx

namespace Go.Proofs.Tryz.Sx
open Go Go.Sx Go.Proofs Go.Fl Go.Geo
set_option maxRecDepth 100000
def W1 (x : Nat) : Prop := FI x (wh x) ∧ small (wh x)
def SmF (g : Nat → Nat) (m : Nat) : Prop := ∀ j, j < m → W1 (g j)
noncomputable def wz (g : Nat → Nat) (j : Nat) : Int := wh (g j)
theorem W1.abs {x : Nat} (h : W1 x) : (wh x).natAbs ≤ 2 ^ 22 := by have := h.2; unfold small at this; omega
theorem pw_of {a b c d x y : Nat} (ha : W1 a) (hb : W1 b) (hc : W1 c) (hd : W1 d) (hx : W1 x) (hy : W1 y) : PW a b c d x y :=
 ⟨ha.1, hb.1, hc.1, hd.1, hx.1, hy.1, ha.abs, hb.abs, hc.abs, hd.abs, hx.abs, hy.abs⟩
theorem w1_fI {n : Int} (h : small n) : W1 (ofI .f64 n) ∧ wh (ofI .f64 n) = n := by
 have e := wh_of h
 exact ⟨⟨by rw [e]; exact fi h, by rw [e]; exact h⟩, e⟩
theorem w1_zero : W1 0 ∧ wh 0 = 0 := by
 have e : wh 0 = 0 := wh_FI zero_FI
 exact ⟨⟨by rw [e]; exact zero_FI, by rw [e]; decide⟩, e⟩
def ninfw : Nat := 18442240474082181120
def inf2F : PF := fun
 | [.int .i64 s] => some (.flt .f64 (if s < 0 then ninfw else infw), none)
 | _ => none
theorem vc_inf2 (R : SV → Prop) (s : Int) : runA GM 0 [] [] (codeOf Tryz.f100) (init Tryz.f100.ntmps [.int .i64 s] [] 0) (endK GM.E.T Tryz.f100.results.toList fun _ v => R v) = (
(decide ((0 : Int) ≤ s) = true → R (SV.flt .f64 9218868437227405312)) ∧ (decide ((0 : Int) ≤ s) = false → R (SV.flt .f64 18442240474082181120))) := by kernel_rfl
theorem inf2 : PureOk Tryz.prog 100 inf2F := by
 refine pure_of_vc gM Tryz.func100 rfl (by kernel_rfl) ?_
 intro args v p h hp
 unfold inf2F at h
 split at h
 · rename_i s
   injection h with h; injection h with h1 h2; subst h1; subst h2
   clear hp
   refine ⟨rfl, _, _, (vc_inf2 _ s).mpr ?_⟩
   refine ⟨fun h => ?_, fun h => ?_⟩
   · have h := of_decide_eq_true h
     rw [if_neg (by omega)]
     rfl
   · have h := of_decide_eq_false h
     rw [if_pos (by omega)]
     rfl
 · cases h
def bxB : Cont → Option Bool
 | .cells [v] => v.toB
 | _ => none
def bxBC (b : Bool) : Cont := .cells [.bool b]
theorem bxB_spec {σ : Sig} {c : Cont} {b : Bool} (h : bxB c = some b) : contR σ c (bxBC b) := by
 unfold bxB at h
 split at h
 · show eqvRL σ _ _
   simp [eqvRL, toB_eqvR h]
 · cases h
def bxI : Cont → Option Int
 | .cells [.int .i64 n] => some n
 | _ => none
def bxIC (n : Int) : Cont := .cells [.int .i64 n]
theorem bxI_spec {σ : Sig} {c : Cont} {n : Int} (h : bxI c = some n) : contR σ c (bxIC n) := by
 unfold bxI at h
 split at h
 · simp only [Option.some.injEq] at h
   subst h
   show eqvRL σ _ _
   simp [eqvRL, eqvR, kEq_self]
 · cases h
def bxP : Cont → Option (Nat × Nat)
 | .cells [.flt .f64 x, .flt .f64 y] => some (x, y)
 | _ => none
def bxPC (x y : Nat) : Cont := .cells [.flt .f64 x, .flt .f64 y]
theorem bxP_spec {σ : Sig} {c : Cont} {x y : Nat} (h : bxP c = some (x, y)) : contR σ c (bxPC x y) := by
 unfold bxP at h
 split at h
 · simp only [Option.some.injEq, Prod.mk.injEq] at h
   obtain ⟨rfl, rfl⟩ := h
   show eqvRL σ _ _
   simp [eqvRL, eqvR, fkEq_self]
 · cases h
def nsg (cl : Bool) (n : Nat) (z : Nat → Int) : Nat := if cl = true then (if n < 3 then 0 else if z (2 * (n - 1)) = z 0 ∧ z (2 * (n - 1) + 1) = z 1 then n - 1 else n) else n - 1
def FP : Flats := [(100, [true, true])]
theorem fpOk : FlatsOk Tryz.prog FP := FlatsOk.cons flat61 FlatsOk.nil
def GPF : Ctx := ⟨⟨tys, FP⟩, []⟩
theorem gPF : CtxOk Tryz.prog GPF := ⟨⟨tysOk, fpOk⟩, GamOk.nil, by kernel_rfl⟩
noncomputable def sNumSC : List SV → RdM
 | [.ptr s 0] => .read s fun o0 => (match serOf o0.c with
   | some (cl, cw, cv, k, x, y, z, w, p, n) => .read p fun o1 => (match fltsFrom .f64 o1.c with
   | some (m1, g) => .ret ⟨[.ptr 0 0], [(0, ⟨false, 150, serC cl cw cv k x y z w 1 n, 0⟩), (1, ⟨false, 100, .flts .f64 m1 g, 0⟩)], .int .i64 (nsg cl n (wz g)), [], [], some (m1 = 2 * n ∧ n ≤ 1000000 ∧ SmF g (2 * n))⟩
   | none => .fail)
   | none => .fail)
 | _ => .fail
theorem vc_sNumS (cl cw cv : Bool) (k : Int) (x y z w : Nat) (_ : Nm) (n : Nat)  (g : Nat → Nat) : runA GPF 2 [] [] (codeOf Tryz.f111) (init Tryz.f111.ntmps [.ptr 0 0] [(0, ⟨false, 150, serC cl cw cv k x y z w 1 n, 0⟩), (1, ⟨false, 100, .flts .f64 (2 * n) g, 0⟩)] 2) (endK GPF.E.T Tryz.f111.results.toList fun S v => postP 2 ⟨[.ptr 0 0], [(0, ⟨false, 150, serC cl cw cv k x y z w 1 n, 0⟩), (1, ⟨false, 100, .flts .f64 (2 * n) g, 0⟩)], .int .i64 (nsg cl n (wz g)), [], [], some (2 * n = 2 * n ∧ n ≤ 1000000 ∧ SmF g (2 * n))⟩ S v) = (
(cl = true → (decide ((↑n : Int) < 3) = true → 0 = (↑(nsg cl n (wz g)) : Int) ∧ True) ∧ (decide ((↑n : Int) < 3) = false → (((0 : Int) ≤ Go.IntKind.wrap .i64 ((↑n : Int) - 1) ∧
 Go.IntKind.wrap .i64 ((↑n : Int) - 1) < (↑n : Int)) ∧ 1 ≤ 2 * n) ∧ 0 + Int.toNat (Go.IntKind.wrap .i64 ((↑n : Int) - 1)) * 2 + 2 ≤ 2 * n ∧ (((0 : Int) ≤ 0 ∧ 0 < (↑n :
 Int)) ∧ 1 ≤ 2 * n) ∧ 2 ≤ 2 * n ∧ true = true ∧ ((fEq .f64 (g (0 + Int.toNat (Go.IntKind.wrap .i64 ((↑n : Int) - 1)) * 2)) (g 0) && (fEq .f64 (g (0 + Int.toNat
(Go.IntKind.wrap .i64 ((↑n : Int) - 1)) * 2 + 1)) (g 1) && true)) = true → Go.IntKind.wrap .i64 ((↑n : Int) - 1) = (↑(nsg cl n (wz g)) : Int) ∧ True) ∧ ((fEq .f64 (g
(0 + Int.toNat (Go.IntKind.wrap .i64 ((↑n : Int) - 1)) * 2)) (g 0) && (fEq .f64 (g (0 + Int.toNat (Go.IntKind.wrap .i64 ((↑n : Int) - 1)) * 2 + 1)) (g 1) && true)) = false
→ (↑n : Int) = (↑(nsg cl n (wz g)) : Int) ∧ True))) ∧ (cl = false → (decide ((↑n : Int) < 2) = true → 0 = (↑(nsg cl n (wz g)) : Int) ∧ True) ∧ (decide ((↑n : Int)
< (2 : Int)) = false → Go.IntKind.wrap .i64 ((↑n : Int) - 1) = (↑(nsg cl n (wz g)) : Int) ∧ True))) := by kernel_rfl
theorem sNumS : ConOk Tryz.prog 111 (conR sNumSC) := by
 refine con_of_vc gPF Tryz.func111 rfl (by kernel_rfl) fun args => ?_
 unfold sNumSC
 split
 · rename_i s
   intro o0
   show RdM.All _ (match serOf o0.c with | some (cl, cw, cv, k, x, y, z, w, p, n) => _ | none => _) _
   split
   · rename_i cl cw cv k x y z w p n hm0
     intro o1
     show RdM.All _ (match fltsFrom .f64 o1.c with | some (m, g) => _ | none => _) _
     split
     · rename_i m1 g hm1
       intro ho
       replace ho : m1 = 2 * n ∧ n ≤ 1000000 ∧ SmF g (2 * n) := ho
       obtain ⟨hsz1, ho⟩ := ho
       subst hsz1
       refine ⟨?_, _, _, (vc_sNumS cl cw cv k x y z w p n g).mpr ?_⟩
       · refine okFlag_mk rfl ⟨?_, ⟨trivial, serOf_spec hm0 (by simp [sgSig, fsts, nth, sameN_self]), ⟨trivial, (contR_flts hm1).1, trivial⟩⟩⟩
         simp [eqvRL, eqvR, sgSig, fsts, nth, sameN_self]
       · obtain ⟨hn, hg⟩ := ho
         have hw : IntKind.i64.wrap ((n : Int) - 1) = n - 1 := wrap64 (by omega) (by omega)
         rw [hw]
         refine ⟨fun hc => ⟨fun h => ?_, fun h => ?_⟩, fun hc => ⟨fun h => ?_, fun h => ?_⟩⟩
         · have h := of_decide_eq_true h
           refine ⟨?_, trivial⟩
           unfold nsg
           rw [if_pos hc, if_pos (by omega)]; rfl
         · have h := of_decide_eq_false h
           have e : 0 + ((n : Int) - 1).toNat * 2 = 2 * (n - 1) := by omega
           rw [e]
           have e1 : fEq .f64 (g (2 * (n - 1))) (g 0) = decide (wz g (2 * (n - 1)) = wz g 0) := feq_I (hg _ (by omega)).1 (hg _ (by omega)).1
           have e2 : fEq .f64 (g (2 * (n - 1) + 1)) (g 1) = decide (wz g (2 * (n - 1) + 1) = wz g 1) := feq_I (hg _ (by omega)).1 (hg _ (by omega)).1
           rw [e1, e2]
           refine ⟨by omega, by omega, by omega, by omega, rfl, fun h1 => ⟨?_, trivial⟩, fun h1 => ⟨?_, trivial⟩⟩
           · unfold nsg
             rw [if_pos hc, if_neg (by omega), if_pos (by simpa using h1)]
             omega
           · unfold nsg
             rw [if_pos hc, if_neg (by omega), if_neg (by simpa using h1)]
         · have h := of_decide_eq_true h
           refine ⟨?_, trivial⟩
           unfold nsg
           rw [if_neg (by simp [hc])]
           omega
         · have h := of_decide_eq_false h
           refine ⟨?_, trivial⟩
           unfold nsg
           rw [if_neg (by simp [hc])]
           omega
     · trivial
   · trivial
 · trivial
noncomputable def sSegC : List SV → RdM
 | [.ptr s 0, .int .i64 i] => .read s fun o0 => (match serOf o0.c with
   | some (cl, cw, cv, k, x, y, z, w, p, n) => .read p fun o1 => (match fltsFrom .f64 o1.c with
   | some (m1, g) => .ret ⟨[.ptr 0 0, .int .i64 i], [(0, ⟨false, 150, serC cl cw cv k x y z w 1 n, 0⟩), (1, ⟨false, 100, .flts .f64 m1 g, 0⟩)], .agg [.flt .f64 (g (2 * i.toNat)), .flt .f64 (g (2 * i.toNat + 1)), .flt .f64 (g (2 * nx n i.toNat)), .flt .f64 (g (2 * nx n i.toNat + 1))], [], [], some (m1 = 2 * n ∧ 0 ≤ i ∧ i < n ∧ n ≤ 1000000)⟩
   | none => .fail)
   | none => .fail)
 | _ => .fail
theorem vc_sSeg (cl cw cv : Bool) (k : Int) (x y z w : Nat) (_ : Nm) (n : Nat) (i : Int)  (g : Nat → Nat) : runA GPF 2 [] [] (codeOf Tryz.f112) (init Tryz.f112.ntmps [.ptr 0 0, .int .i64 i] [(0, ⟨false, 150, serC cl cw cv k x y z w 1 n, 0⟩), (1, ⟨false, 100, .flts .f64 (2 * n) g, 0⟩)] 2) (endK GPF.E.T Tryz.f112.results.toList fun S v => postP 2 ⟨[.ptr 0 0, .int .i64 i], [(0, ⟨false, 150, serC cl cw cv k x y z w 1 n, 0⟩), (1, ⟨false, 100, .flts .f64 (2 * n) g, 0⟩)], .agg [.flt .f64 (g (2 * i.toNat)), .flt .f64 (g (2 * i.toNat + 1)), .flt .f64 (g (2 * nx n i.toNat)), .flt .f64 (g (2 * nx n i.toNat + 1))], [], [], some (2 * n = 2 * n ∧ 0 ≤ i ∧ i < n ∧ n ≤ 1000000)⟩ S v) = (
(((0 : Int) ≤ i ∧ i < (↑n : Int)) ∧ 1 ≤ 2 * n) ∧ 0 + Int.toNat i * 2 + 2 ≤ 2 * n ∧ ((i == Go.IntKind.wrap .i64 ((↑n : Int) - 1)) = true → (((0 : Int) ≤ 0 ∧ 0 < (↑n : Int)) ∧ 1 ≤ 2 * n) ∧ 2 ≤ 2 * n ∧ (g (0 + Int.toNat i * 2) = g (2 * Int.toNat i) ∧ g (0 + Int.toNat i * 2 + 1) = g (2 * Int.toNat i + 1) ∧ g 0 = g (2 *
 nx n (Int.toNat i)) ∧ g 1 = g (2 * nx n (Int.toNat i) + 1) ∧ True) ∧ True) ∧ ((i == Go.IntKind.wrap .i64 ((↑n : Int) - 1)) = false → (((0 : Int) ≤ Go.IntKind.wrap .i64 (i + (1 :
 Int)) ∧ Go.IntKind.wrap .i64 (i + (1 : Int)) < (↑n : Int)) ∧ 1 ≤ 2 * n) ∧ 0 + Int.toNat (Go.IntKind.wrap .i64 (i + (1 : Int))) * 2 + 2 ≤ 2 * n ∧ (g (0 + Int.toNat i * 2) = g (2 *
 Int.toNat i) ∧ g (0 + Int.toNat i * 2 + 1) = g (2 * Int.toNat i + 1) ∧ g (0 + Int.toNat (Go.IntKind.wrap .i64 (i + (1 : Int))) * 2) = g (2 * nx n (Int.toNat i)) ∧ g (0 + Int.toNat (Go.IntKind.wrap .i64 (i + (1 : Int))) * 2 + 1) = g (2 * nx n (Int.toNat i) + 1) ∧ True) ∧ True)) := by kernel_rfl
theorem sSeg : ConOk Tryz.prog 112 (conR sSegC) := by
 refine con_of_vc gPF Tryz.func112 rfl (by kernel_rfl) fun args => ?_
 unfold sSegC
 split
 · rename_i s i
   intro o0
   show RdM.All _ (match serOf o0.c with | some (cl, cw, cv, k, x, y, z, w, p, n) => _ | none => _) _
   split
   · rename_i cl cw cv k x y z w p n hm0
     intro o1
     show RdM.All _ (match fltsFrom .f64 o1.c with | some (m, g) => _ | none => _) _
     split
     · rename_i m1 g hm1
       intro ho
       replace ho : m1 = 2 * n ∧ 0 ≤ i ∧ i < n ∧ n ≤ 1000000 := ho
       obtain ⟨hsz1, ho⟩ := ho
       subst hsz1
       refine ⟨?_, _, _, (vc_sSeg cl cw cv k x y z w p n i g).mpr ?_⟩
       · refine okFlag_mk rfl ⟨?_, ⟨trivial, serOf_spec hm0 (by simp [sgSig, fsts, nth, sameN_self]), ⟨trivial, (contR_flts hm1).1, trivial⟩⟩⟩
         simp [eqvRL, eqvR, kEq_self, sgSig, fsts, nth, sameN_self]
       · obtain ⟨h0, h1, hn⟩ := ho
         have hw : IntKind.i64.wrap ((n : Int) - 1) = n - 1 := wrap64 (by omega) (by omega)
         have hw1 : IntKind.i64.wrap (i + 1) = i + 1 := wrap64 (by omega) (by omega)
         have e : 0 + i.toNat * 2 = 2 * i.toNat := by omega
         rw [hw, hw1, e]
         refine ⟨by omega, by omega, fun h => ?_, fun h => ?_⟩
         · have h : i = n - 1 := by simpa using h
           have e2 : nx n i.toNat = 0 := by unfold nx; rw [if_pos (by omega)]
           rw [e2]
           refine ⟨by omega, by omega, ?_⟩
           simp
         · have h : ¬ i = n - 1 := by simpa using h
           have e2 : nx n i.toNat = i.toNat + 1 := by unfold nx; rw [if_neg (by omega)]
           have e3 : 0 + (i + 1).toNat * 2 = 2 * (i.toNat + 1) := by omega
           rw [e2, e3]
           refine ⟨by omega, by omega, ?_⟩
           simp
     · trivial
   · trivial
 · trivial
noncomputable def lfW (ax ay bx by' px py : Nat) : Bool := decide (¬ On (wh ax) (wh ay) (wh bx) (wh by') (wh px) (wh py) ∧ Lft (wh ax) (wh ay) (wh bx) (wh by') (wh px) (wh py))
noncomputable def GCP : Ctx := ⟨⟨tys, FP⟩, [(90, pureCon rayF), (210, pureCon isecF), (211, pureCon sCollF)]⟩
theorem gCP : CtxOk Tryz.prog GCP := ⟨⟨tysOk, fpOk⟩, GamOk.cons (.pure ray) (GamOk.cons (.pure isec) (GamOk.cons (.pure sColl) GamOk.nil)), by kernel_rfl⟩
noncomputable def cpSC : List SV → RdM
 | [.agg [.flt .f64 px, .flt .f64 py], v, .ptr ix 0, .ptr inn 0, .agg [.flt .f64 ax, .flt .f64 ay, .flt .f64 bx, .flt .f64 by'], .int .i64 i] => .read ix fun o0 => (match rwOk o0 3 0 with
   | true => (match bxI o0.c with
   | some n => .read inn fun o1 => (match rwOk o1 4 0 with
   | true => (match bxB o1.c with
   | some b => (match v.toB with
   | some al => .ret ⟨[.agg [.flt .f64 px, .flt .f64 py], .bool al, .ptr 0 0, .ptr 1 0, .agg [.flt .f64 ax, .flt .f64 ay, .flt .f64 bx, .flt .f64 by'], .int .i64 i], [(0, ⟨true, 3, bxIC n, 0⟩), (1, ⟨true, 4, bxBC b, 0⟩)], .bool (!(onW ax ay bx by' px py)), [(0, ⟨true, 3, bxIC (if onW ax ay bx by' px py = true then i else n), 0⟩), (1, ⟨true, 4, bxBC (if onW ax ay bx by' px py = true then al else xor b (lfW ax ay bx by' px py)), 0⟩)], [], some (PW ax ay bx by' px py)⟩
   | none => .fail)
   | none => .fail)
   | false => .fail)
   | none => .fail)
   | false => .fail)
 | _ => .fail
theorem vc_cpS (px py ax ay bx by' : Nat) (al : Bool) (i : Int) (n : Int) (b : Bool) : runA GCP 2 [] [] (codeOf Tryz.f184) (init Tryz.f184.ntmps [.agg [.flt .f64 px, .flt .f64 py], .bool al, .ptr 0 0, .ptr 1 0, .agg [.flt .f64 ax, .flt .f64 ay, .flt .f64 bx, .flt .f64 by'], .int .i64 i] [(0, ⟨true, 3, bxIC n, 0⟩), (1, ⟨true, 4, bxBC b, 0⟩)] 2) (endK GCP.E.T Tryz.f184.results.toList fun S v => postP 2 ⟨[.agg [.flt .f64 px, .flt .f64 py], .bool al, .ptr 0 0, .ptr 1 0, .agg [.flt .f64 ax, .flt .f64 ay, .flt .f64 bx, .flt .f64 by'], .int .i64 i], [(0, ⟨true, 3, bxIC n, 0⟩), (1, ⟨true, 4, bxBC b, 0⟩)], .bool (!(onW ax ay bx by' px py)), [(0, ⟨true, 3, bxIC (if onW ax ay bx by' px py = true then i else n), 0⟩), (1, ⟨true, 4, bxBC (if onW ax ay bx by' px py = true then al else xor b (lfW ax ay bx by' px py)), 0⟩)], [], some (PW ax ay bx by' px py)⟩ S v) = (
 Pts ax ay bx by' px py (wh ax) (wh ay) (wh bx) (wh by') (wh px) (wh py) ∧ (decide (Go.Geo.On (wh ax)
(wh ay) (wh bx) (wh by') (wh px) (wh py)) = true → (!onW ax ay bx by' px py) = false ∧ True ∧ (3 = 3 ∧ 0 = 0 ∧
(i = if onW ax ay bx by' px py = true then i else n) ∧ True) ∧ True ∧ (4 = 4 ∧ 0 = 0 ∧ (al = if onW ax ay bx by' px py = true then al else b ^^ lfW ax ay bx by' px
 py) ∧ True) ∧ True) ∧ (decide (Go.Geo.On (wh ax) (wh ay) (wh bx) (wh by') (wh px) (wh py)) = false → (decide (¬Go.Geo.On (wh
 ax) (wh ay) (wh bx) (wh by') (wh px) (wh py) ∧ Go.Geo.Lft (wh ax) (wh ay) (wh bx) (wh
 by') (wh px) (wh py)) = true → (!onW ax ay bx by' px py) = true ∧ True ∧ (3 = 3 ∧ 0 = 0 ∧ (n = if onW ax ay bx by' px py = true then i else n) ∧
 True) ∧ True ∧ (4 = 4 ∧ 0 = 0 ∧ ((!b) = if onW ax ay bx by' px py = true then al else b ^^ lfW ax ay bx by' px py) ∧ True) ∧ True) ∧ (decide (¬Go.Geo.On (wh ax)
(wh ay) (wh bx) (wh by') (wh px) (wh py) ∧ Go.Geo.Lft (wh ax) (wh ay) (wh bx) (wh by')
(wh px) (wh py)) = false → (!onW ax ay bx by' px py) = true ∧ True ∧ (3 = 3 ∧ 0 = 0 ∧ (n = if onW ax ay bx by' px py = true then i else n) ∧ True)
∧ True ∧ (4 = 4 ∧ 0 = 0 ∧ (b = if onW ax ay bx by' px py = true then al else b ^^ lfW ax ay bx by' px py) ∧ True) ∧ True))) := by kernel_rfl
theorem cpS : ConOk Tryz.prog 184 (conR cpSC) := by
 refine con_of_vc gCP Tryz.func184 rfl (by kernel_rfl) fun args => ?_
 unfold cpSC
 split
 · rename_i px py v ix inn ax ay bx by' i
   intro o0
   show RdM.All _ (match rwOk o0 3 0 with | true => _ | false => _) _
   split
   · rename_i hrw0
     show RdM.All _ (match bxI o0.c with | some n => _ | none => _) _
     split
     · rename_i n hm0
       intro o1
       show RdM.All _ (match rwOk o1 4 0 with | true => _ | false => _) _
       split
       · rename_i hrw1
         show RdM.All _ (match bxB o1.c with | some b => _ | none => _) _
         split
         · rename_i b hm1
           show RdM.All _ (match v.toB with | some b => _ | none => _) _
           split
           · rename_i al hal
             intro ho
             replace ho : PW ax ay bx by' px py := ho
             refine ⟨?_, _, _, (vc_cpS px py ax ay bx by' al i n b).mpr ?_⟩
             · refine okFlag_mk rfl ⟨?_, ⟨trivial, obR_rw hrw0 (bxI_spec hm0), ⟨trivial, obR_rw hrw1 (bxB_spec hm1), trivial⟩⟩⟩
               simp [eqvRL, eqvR, kEq_self, fkEq_self, sgSig, fsts, nth, sameN_self, toB_eqvR hal]
             · have e1 : decide (On (wh ax) (wh ay) (wh bx) (wh by') (wh px) (wh py)) = onW ax ay bx by' px py := rfl
               have e2 : decide (¬ On (wh ax) (wh ay) (wh bx) (wh by') (wh px) (wh py) ∧ Lft (wh ax) (wh ay) (wh bx) (wh by') (wh px) (wh py)) = lfW ax ay bx by' px py := rfl
               simp only [e1, e2]
               refine ⟨ho, ?_⟩
               generalize onW ax ay bx by' px py = o
               generalize lfW ax ay bx by' px py = l
               cases o <;> cases l <;> simp
           · trivial
         · trivial
       · trivial
     · trivial
   · trivial
 · trivial
noncomputable def GcpB : Ctx := ⟨⟨tys, []⟩, [(184, conR cpSC)]⟩
theorem gcpB : CtxOk Tryz.prog GcpB := ⟨⟨tysOk, FlatsOk.nil⟩, GamOk.cons cpS GamOk.nil, by kernel_rfl⟩
noncomputable def cpBC : List SV → RdM
 | [.agg [.flt .f64 ax, .flt .f64 ay, .flt .f64 bx, .flt .f64 by'], .int .i64 i, .ptr p 0, .ptr a 0, .ptr ix 0, .ptr inn 0] => .read p fun o0 => (match bxP o0.c with
   | some (px, py) => .read a fun o1 => (match bxB o1.c with
   | some al => .read ix fun o2 => (match rwOk o2 3 0 with
   | true => (match bxI o2.c with
   | some n => .read inn fun o3 => (match rwOk o3 4 0 with
   | true => (match bxB o3.c with
   | some b => .ret ⟨[.agg [.flt .f64 ax, .flt .f64 ay, .flt .f64 bx, .flt .f64 by'], .int .i64 i, .ptr 0 0, .ptr 1 0, .ptr 2 0, .ptr 3 0], [(0, ⟨false, 100, bxPC px py, 0⟩), (1, ⟨false, 4, bxBC al, 0⟩), (2, ⟨true, 3, bxIC n, 0⟩), (3, ⟨true, 4, bxBC b, 0⟩)], .bool (!(onW ax ay bx by' px py)), [(2, ⟨true, 3, bxIC (if onW ax ay bx by' px py = true then i else n), 0⟩), (3, ⟨true, 4, bxBC (if onW ax ay bx by' px py = true then al else xor b (lfW ax ay bx by' px py)), 0⟩)], [], some (PW ax ay bx by' px py)⟩
   | none => .fail)
   | false => .fail)
   | none => .fail)
   | false => .fail)
   | none => .fail)
   | none => .fail)
 | _ => .fail
theorem vc_cpB (px py ax ay bx by' : Nat) (al : Bool) (i : Int) (n : Int) (b : Bool) : runA GcpB 4 [] [] (codeOf Tryz.f183) (init Tryz.f183.ntmps [.agg [.flt .f64 ax, .flt .f64 ay, .flt .f64 bx, .flt .f64 by'], .int .i64 i, .ptr 0 0, .ptr 1 0, .ptr 2 0, .ptr 3 0] [(0, ⟨false, 100, bxPC px py, 0⟩), (1, ⟨false, 4, bxBC al, 0⟩), (2, ⟨true, 3, bxIC n, 0⟩), (3, ⟨true, 4, bxBC b, 0⟩)] 4) (endK GcpB.E.T Tryz.f183.results.toList fun S v => postP 4 ⟨[.agg [.flt .f64 ax, .flt .f64 ay, .flt .f64 bx, .flt .f64 by'], .int .i64 i, .ptr 0 0, .ptr 1 0, .ptr 2 0, .ptr 3 0], [(0, ⟨false, 100, bxPC px py, 0⟩), (1, ⟨false, 4, bxBC al, 0⟩), (2, ⟨true, 3, bxIC n, 0⟩), (3, ⟨true, 4, bxBC b, 0⟩)], .bool (!(onW ax ay bx by' px py)), [(2, ⟨true, 3, bxIC (if onW ax ay bx by' px py = true then i else n), 0⟩), (3, ⟨true, 4, bxBC (if onW ax ay bx by' px py = true then al else xor b (lfW ax ay bx by' px py)), 0⟩)], [], some (PW ax ay bx by' px py)⟩ S v) = (
 PW ax ay bx by' px py ∧ (!onW ax ay bx by' px py) = !onW ax ay bx by' px py ∧ True ∧ (3 = 3 ∧ 0 = 0 ∧ ((if onW ax ay bx by' px py = true then i
 else n) = if onW ax ay bx by' px py = true then i else n) ∧ True) ∧ True ∧ (4 = 4 ∧ 0 = 0 ∧ ((if onW ax ay bx by' px py = true then al else b ^^ lfW ax ay bx by' px
 py) = if onW ax ay bx by' px py = true then al else b ^^ lfW ax ay bx by' px py) ∧ True) ∧ True) := by kernel_rfl
theorem cpB : ConOk Tryz.prog 183 (conR cpBC) := by
 refine con_of_vc gcpB Tryz.func183 rfl (by kernel_rfl) fun args => ?_
 unfold cpBC
 split
 · rename_i ax ay bx by' i p a ix inn
   intro o0
   show RdM.All _ (match bxP o0.c with | some (px, py) => _ | none => _) _
   split
   · rename_i px py hm0
     intro o1
     show RdM.All _ (match bxB o1.c with | some al => _ | none => _) _
     split
     · rename_i al hm1
       intro o2
       show RdM.All _ (match rwOk o2 3 0 with | true => _ | false => _) _
       split
       · rename_i hrw2
         show RdM.All _ (match bxI o2.c with | some n => _ | none => _) _
         split
         · rename_i n hm2
           intro o3
           show RdM.All _ (match rwOk o3 4 0 with | true => _ | false => _) _
           split
           · rename_i hrw3
             show RdM.All _ (match bxB o3.c with | some b => _ | none => _) _
             split
             · rename_i b hm3
               intro ho
               replace ho : PW ax ay bx by' px py := ho
               refine ⟨?_, _, _, (vc_cpB px py ax ay bx by' al i n b).mpr ?_⟩
               · refine okFlag_mk rfl ⟨?_, ⟨trivial, bxP_spec hm0, ⟨trivial, bxB_spec hm1, ⟨trivial, obR_rw hrw2 (bxI_spec hm2), ⟨trivial, obR_rw hrw3 (bxB_spec hm3), trivial⟩⟩⟩⟩⟩
                 simp [eqvRL, eqvR, kEq_self, fkEq_self, sgSig, fsts, nth, sameN_self]
               · simp [ho]
             · trivial
           · trivial
         · trivial
       · trivial
     · trivial
   · trivial
 · trivial
def mtF (g : Nat → Nat) (n qa qb qc qd : Nat) (i : Nat) : Bool :=
 !(fGt .f64 (fmin (g (2 * i + 1)) (g (2 * nx n i + 1))) qd) && !(fLt .f64 (fmax (g (2 * i + 1)) (g (2 * nx n i + 1))) qb) && !(fGt .f64 (fmin (g (2 * i)) (g (2 * nx n i))) qc) && !(fLt .f64 (fmax (g (2 * i)) (g (2 * nx n i))) qa)
theorem nsg_le (cl : Bool) (n : Nat) (z : Nat → Int) : nsg cl n z ≤ n := by
 unfold nsg
 split
 · split
   · omega
   · split <;> omega
 · omega
def cpR (meet on lf : Nat → Bool) (al b : Bool) (ix : Int) : Nat → Bool × Bool × Int
 | 0 => (false, b, ix)
 | i + 1 => if (cpR meet on lf al b ix i).1 = true ∨ meet i = false then cpR meet on lf al b ix i else if on i = true then (true, al, i) else (false, xor (cpR meet on lf al b ix i).2.1 (lf i), (cpR meet on lf al b ix i).2.2)
theorem cpR_stop {meet on lf : Nat → Bool} {al b : Bool} {ix : Int} {i : Nat} (h : (cpR meet on lf al b ix i).1 = true) : ∀ m, i ≤ m → cpR meet on lf al b ix m = cpR meet on lf al b ix i
 | 0, hm => by
   have : i = 0 := by omega
   subst this; rfl
 | m + 1, hm => by
   by_cases e : i = m + 1
   · subst e; rfl
   · have ih := cpR_stop h m (by omega)
     show (if (cpR meet on lf al b ix m).1 = true ∨ meet m = false then cpR meet on lf al b ix m else _) = _
     rw [ih, if_pos (.inl h)]
def anyB (p : Nat → Bool) : Nat → Bool
 | 0 => false
 | i + 1 => anyB p i || p i
theorem anyB_of {p : Nat → Bool} : ∀ {i m : Nat}, i < m → p i = true → anyB p m = true
 | i, 0, h, _ => by omega
 | i, m + 1, h, hp => by
   show (anyB p m || p m) = true
   by_cases e : i = m
   · subst e; rw [hp]; simp
   · rw [anyB_of (by omega) hp]; rfl
section
variable (g : Nat → Nat) (n : Nat)
noncomputable def onS (px py : Nat) (i : Nat) : Bool := onW (g (2 * i)) (g (2 * i + 1)) (g (2 * nx n i)) (g (2 * nx n i + 1)) px py
noncomputable def lfS (px py : Nat) (i : Nat) : Bool := lfW (g (2 * i)) (g (2 * i + 1)) (g (2 * nx n i)) (g (2 * nx n i + 1)) px py
noncomputable def cpV (qa qb qc qd px py : Nat) (al b : Bool) (ix : Int) : Nat → Bool × Bool × Int := cpR (mtF g n qa qb qc qd) (onS g n px py) (lfS g n px py) al b ix
end
def qC (qa qb qc qd : Nat) : List SV := [.flt .f64 qa, .flt .f64 qb, .flt .f64 qc, .flt .f64 qd]
noncomputable def GssrCP : Ctx := ⟨⟨tys, []⟩, [(111, conR sNumSC), (112, conR sSegC), (113, pureCon sRectF), (175, pureCon rMeetF), (183, conR cpBC)]⟩
theorem gssrCP : CtxOk Tryz.prog GssrCP := ⟨⟨tysOk, FlatsOk.nil⟩, GamOk.cons sNumS (GamOk.cons sSeg (GamOk.cons (.pure sRect) (GamOk.cons (.pure rMeet) (GamOk.cons cpB GamOk.nil)))), by kernel_rfl⟩
noncomputable def LsrCP (cl cw cv : Bool) (k : Int) (x y z w n : Nat) (g : Nat → Nat) (qa qb qc qd : Nat) (px py : Nat) (al b : Bool) (ix : Int) : Fam := ⟨Nat, fun i =>
 ⟨69, [(0, .ptr 0 0), (2, .fn (.func 183) [] [.ptr 2 0, .ptr 3 0, .ptr 4 0, .ptr 5 0]), (4, .ptr 6 0), (7, .int .i64 (nsg cl n (wz g))), (8, .int .i64 i)], [(0, ⟨false, 150, serC cl cw cv k x y z w 1 n, 0⟩), (1, ⟨false, 100, .flts .f64 (2 * n) g, 0⟩), (2, ⟨false, 100, bxPC px py, 0⟩), (3, ⟨false, 4, bxBC al, 0⟩), (4, ⟨true, 3, bxIC (cpV g n qa qb qc qd px py al b ix i).2.2, 0⟩), (5, ⟨true, 4, bxBC (cpV g n qa qb qc qd px py al b ix i).2.1, 0⟩), (6, ⟨true, 102, .cells (qC qa qb qc qd), 0⟩)], 7⟩, fun i => i ≤ nsg cl n (wz g) ∧ (cpV g n qa qb qc qd px py al b ix i).1 = false, fun i => nsg cl n (wz g) - i⟩
noncomputable def srCPC : List SV → RdM
 | [.ptr s 0, .agg [.flt .f64 qa, .flt .f64 qb, .flt .f64 qc, .flt .f64 qd], .fn (.func 183) [] [.ptr p1 0, .ptr a1 0, .ptr x1 0, .ptr y1 0]] => .read s fun o0 => (match serOf o0.c with
   | some (cl, cw, cv, k, x, y, z, w, p, n) => .read p fun o1 => (match fltsFrom .f64 o1.c with
   | some (m1, g) => .read p1 fun o2 => (match bxP o2.c with
   | some (px, py) => .read a1 fun o3 => (match bxB o3.c with
   | some al => .read x1 fun o4 => (match rwOk o4 3 0 with
   | true => (match bxI o4.c with
   | some ix => .read y1 fun o5 => (match rwOk o5 4 0 with
   | true => (match bxB o5.c with
   | some b => .ret ⟨[.ptr 0 0, .agg [.flt .f64 qa, .flt .f64 qb, .flt .f64 qc, .flt .f64 qd], .fn (.func 183) [] [.ptr 2 0, .ptr 3 0, .ptr 4 0, .ptr 5 0]], [(0, ⟨false, 150, serC cl cw cv k x y z w 1 n, 0⟩), (1, ⟨false, 100, .flts .f64 m1 g, 0⟩), (2, ⟨false, 100, bxPC px py, 0⟩), (3, ⟨false, 4, bxBC al, 0⟩), (4, ⟨true, 3, bxIC ix, 0⟩), (5, ⟨true, 4, bxBC b, 0⟩)], .tup [], [(4, ⟨true, 3, bxIC (cpV g n qa qb qc qd px py al b ix (nsg cl n (wz g))).2.2, 0⟩), (5, ⟨true, 4, bxBC (cpV g n qa qb qc qd px py al b ix (nsg cl n (wz g))).2.1, 0⟩)], [], some (m1 = 2 * n ∧ n ≤ 1000000 ∧ SmF g (2 * n) ∧ W1 px ∧ W1 py)⟩
   | none => .fail)
   | false => .fail)
   | none => .fail)
   | false => .fail)
   | none => .fail)
   | none => .fail)
   | none => .fail)
   | none => .fail)
 | _ => .fail
theorem vc_srCP (cl cw cv : Bool) (k : Int) (x y z w : Nat) (_ : Nm) (n : Nat) (qa qb qc qd : Nat) (px py : Nat) (al b : Bool) (ix : Int)  (g : Nat → Nat) : runA GssrCP 6 [(5, LsrCP cl cw cv k x y z w n g qa qb qc qd px py al b ix)] [] (codeOf Tryz.f172) (init Tryz.f172.ntmps [.ptr 0 0, .agg [.flt .f64 qa, .flt .f64 qb, .flt .f64 qc, .flt .f64 qd], .fn (.func 183) [] [.ptr 2 0, .ptr 3 0, .ptr 4 0, .ptr 5 0]] [(0, ⟨false, 150, serC cl cw cv k x y z w 1 n, 0⟩), (1, ⟨false, 100, .flts .f64 (2 * n) g, 0⟩), (2, ⟨false, 100, bxPC px py, 0⟩), (3, ⟨false, 4, bxBC al, 0⟩), (4, ⟨true, 3, bxIC ix, 0⟩), (5, ⟨true, 4, bxBC b, 0⟩)] 6) (endK GssrCP.E.T Tryz.f172.results.toList fun S v => postP 6 ⟨[.ptr 0 0, .agg [.flt .f64 qa, .flt .f64 qb, .flt .f64 qc, .flt .f64 qd], .fn (.func 183) [] [.ptr 2 0, .ptr 3 0, .ptr 4 0, .ptr 5 0]], [(0, ⟨false, 150, serC cl cw cv k x y z w 1 n, 0⟩), (1, ⟨false, 100, .flts .f64 (2 * n) g, 0⟩), (2, ⟨false, 100, bxPC px py, 0⟩), (3, ⟨false, 4, bxBC al, 0⟩), (4, ⟨true, 3, bxIC ix, 0⟩), (5, ⟨true, 4, bxBC b, 0⟩)], .tup [], [(4, ⟨true, 3, bxIC (cpV g n qa qb qc qd px py al b ix (nsg cl n (wz g))).2.2, 0⟩), (5, ⟨true, 4, bxBC (cpV g n qa qb qc qd px py al b ix (nsg cl n (wz g))).2.1, 0⟩)], [], some (2 * n = 2 * n ∧ n ≤ 1000000 ∧ SmF g (2 * n) ∧ W1 px ∧ W1 py)⟩ S v) = (
(2 * n = 2 * n ∧ n ≤ 1000000 ∧ SmF g (2 * n)) ∧ (∃ (i : Nat), (i ≤ nsg cl n (wz g) ∧ (cpV g n qa qb qc qd px py al b ix i).1 = false) ∧
((True ∧ 0 = 0) ∧ (Go.Fn.func 183 = Go.Fn.func 183 ∧ True ∧ (True ∧ 0 = 0) ∧ (True ∧ 0 = 0) ∧ (True ∧ 0 = 0) ∧ (True ∧ 0 = 0) ∧ True) ∧ (True ∧ 0
= 0) ∧ (↑(nsg cl n (wz g)) : Int) = (↑(nsg cl n (wz g)) : Int) ∧ 0 = (↑i : Int) ∧ True) ∧ True ∧ (cl = cl ∧ cw = cw ∧ cv = cv ∧ k = k ∧ True ∧ x = x ∧ y = y ∧ z =
 z ∧ w = w ∧ (True ∧ n = n) ∧ True) ∧ True ∧ (2 * n ≤ 2 * n ∧ ∀ (i : Nat), i < 2 * n → g i = g i) ∧ True ∧ (px = px ∧ py = py ∧ True) ∧ True ∧ (al = al ∧ True) ∧ True ∧ (3 = 3 ∧ 0 = 0 ∧ ix =
 ((cpV g n qa qb qc qd px py al b ix i).2).2 ∧ True) ∧ True ∧ (4 = 4 ∧ 0 = 0 ∧ b = ((cpV g n qa qb qc qd px py al b ix i).2).1 ∧ True) ∧ True ∧ (102 = 102 ∧ 0 = 0 ∧ qa = qa ∧ qb = qb ∧ qc = qc ∧ qd = qd ∧ True) ∧ True) ∧ ∀ (i : Nat), i ≤ nsg cl n (wz g) ∧ (cpV g n qa qb qc qd px py al b ix i).1 = false →
(decide ((↑i : Int) < (↑(nsg cl n (wz g)) : Int)) = true → (2 * n = 2 * n ∧ 0 ≤ (↑i : Int) ∧ (↑i : Int) < (↑n : Int) ∧ n ≤ 1000000) ∧ true = true ∧ ((!fGt .f64
(fmin (g (2 * Int.toNat (↑i : Int) + 1)) (g (2 * nx n (Int.toNat (↑i : Int)) + 1))) qd && !fLt .f64 (fmax (g (2 * Int.toNat (↑i : Int) + 1))
(g (2 * nx n (Int.toNat (↑i : Int)) + 1))) qb && !fGt .f64 (fmin (g (2 * Int.toNat (↑i : Int))) (g (2 * nx n (Int.toNat (↑i : Int))))) qc && !fLt .f64
(fmax (g (2 * Int.toNat (↑i : Int))) (g (2 * nx n (Int.toNat (↑i : Int))))) qa) = true → PW (g (2 * Int.toNat (↑i : Int))) (g (2 * Int.toNat (↑i : Int) + 1)) (g (2 * nx n (Int.toNat (↑i : Int)))) (g (2 * nx n (Int.toNat (↑i : Int)) + 1)) px py ∧ ((!!onW (g (2 * Int.toNat (↑i : Int))) (g (2 * Int.toNat (↑i
: Int) + 1)) (g (2 * nx n (Int.toNat (↑i : Int)))) (g (2 * nx n (Int.toNat (↑i : Int)) + 1)) px py) = true → True ∧ True ∧ (3 = 3 ∧ 0 = 0 ∧ (if
 onW (g (2 * Int.toNat (↑i : Int))) (g (2 * Int.toNat (↑i : Int) + 1)) (g (2 * nx n (Int.toNat (↑i : Int)))) (g (2 * nx n (Int.toNat (↑i : Int)) + 1)) px py = true then (↑i : Int) else ((cpV g n qa qb qc qd px py al b ix i).2).2) = ((cpV g n qa qb qc qd px py al b ix (nsg cl n (wz g))).2).2 ∧
 True) ∧ True ∧ (4 = 4 ∧ 0 = 0 ∧ (if onW (g (2 * Int.toNat (↑i : Int))) (g (2 * Int.toNat (↑i : Int) + 1)) (g (2 * nx n (Int.toNat (↑i : Int)))) (g (2 * nx n (Int.toNat (↑i : Int)) + 1)) px py = true then al else ((cpV g n qa qb qc qd px py al b ix i).2).1 ^^ lfW (g (2 * Int.toNat (↑i : Int))) (g (2 *
 Int.toNat (↑i : Int) + 1)) (g (2 * nx n (Int.toNat (↑i : Int)))) (g (2 * nx n (Int.toNat (↑i : Int)) + 1)) px py) = ((cpV g n qa qb qc qd px py al
 b ix (nsg cl n (wz g))).2).1 ∧ True) ∧ True) ∧ ((!!onW (g (2 * Int.toNat (↑i : Int))) (g (2 * Int.toNat (↑i : Int) + 1)) (g (2 * nx n (Int.toNat (↑i :
 Int)))) (g (2 * nx n (Int.toNat (↑i : Int)) + 1)) px py) = false → ∃ (i' : Nat), (i' ≤ nsg cl n (wz g) ∧ (cpV g n qa qb qc qd px py al b ix i').1 = false)
∧ nsg cl n (wz g) - i' < nsg cl n (wz g) - i ∧ ((True ∧ 0 = 0) ∧ (Go.Fn.func 183 = Go.Fn.func 183 ∧ True ∧ (True ∧ 0 = 0) ∧ (True
∧ 0 = 0) ∧ (True ∧ 0 = 0) ∧ (True ∧ 0 = 0) ∧ True) ∧ (True ∧ 0 = 0) ∧ (↑(nsg cl n (wz g)) : Int) = (↑(nsg cl n (wz
 g)) : Int) ∧ Go.IntKind.wrap .i64 ((↑i : Int) + 1) = (↑i' : Int) ∧ True) ∧ True ∧ (cl = cl ∧ cw = cw ∧ cv = cv ∧ k = k ∧ True ∧ x = x ∧ y = y ∧ z = z ∧ w = w ∧ (True ∧ n = n) ∧ True) ∧ True ∧ (2 * n ≤ 2 * n ∧ ∀ (i : Nat), i <
2 * n → g i = g i) ∧ True ∧ (px = px ∧ py = py ∧ True) ∧ True ∧ (al = al ∧ True) ∧ True ∧ (3 = 3 ∧ 0 = 0 ∧ (if onW (g (2 * Int.toNat (↑i : Int))) (g (2 * Int.toNat (↑i : Int) +
1)) (g (2 * nx n (Int.toNat (↑i : Int)))) (g (2 * nx n (Int.toNat (↑i : Int)) + 1)) px py = true then (↑i : Int) else ((cpV g n qa qb qc qd px py
 al b ix i).2).2) = ((cpV g n qa qb qc qd px py al b ix i').2).2 ∧ True) ∧ True ∧ (4 = 4 ∧ 0 = 0 ∧ (if onW (g (2 * Int.toNat (↑i : Int))) (g (2 * Int.toNat
(↑i : Int) + 1)) (g (2 * nx n (Int.toNat (↑i : Int)))) (g (2 * nx n (Int.toNat (↑i : Int)) + 1)) px py = true then al else ((cpV g n qa qb qc qd
 px py al b ix i).2).1 ^^ lfW (g (2 * Int.toNat (↑i : Int))) (g (2 * Int.toNat (↑i : Int) + 1)) (g (2 * nx n (Int.toNat (↑i : Int)))) (g (2 * nx n (Int.toNat (↑i
: Int)) + 1)) px py) = ((cpV g n qa qb qc qd px py al b ix i').2).1 ∧ True) ∧ True ∧ (102 = 102 ∧ 0 = 0 ∧ qa = qa ∧ qb = qb ∧ qc = qc ∧ qd = qd ∧ True) ∧ True)) ∧ ((!fGt
.f64 (fmin (g (2 * Int.toNat (↑i : Int) + 1)) (g (2 * nx n (Int.toNat (↑i : Int)) + 1))) qd && !fLt .f64 (fmax (g (2 * Int.toNat (↑i : Int) + 1)) (g (2 * nx n (Int.toNat (↑i : Int)) + 1))) qb && !fGt .f64 (fmin (g (2 * Int.toNat (↑i : Int))) (g (2 * nx n (Int.toNat (↑i : Int))))) qc && !fLt
.f64 (fmax (g (2 * Int.toNat (↑i : Int))) (g (2 * nx n (Int.toNat (↑i : Int))))) qa) = false → ∃ (i' : Nat), (i' ≤ nsg cl n (wz g) ∧ Prod.fst
(cpV g n qa qb qc qd px py al b ix i') = false) ∧ nsg cl n (wz g) - i' < nsg cl n (wz g) - i ∧ ((True ∧ 0 = 0) ∧ (Go.Fn.func 183 =
 Go.Fn.func 183 ∧ True ∧ (True ∧ 0 = 0) ∧ (True ∧ 0 = 0) ∧ (True ∧ 0 = 0) ∧ (True ∧ 0 = 0) ∧ True) ∧ (True ∧ 0 = 0) ∧ (↑(nsg cl n
(wz g)) : Int) = (↑(nsg cl n (wz g)) : Int) ∧ Go.IntKind.wrap .i64 ((↑i : Int) + 1) = (↑i' : Int) ∧ True) ∧ True ∧ (cl = cl ∧ cw = cw ∧ cv = cv ∧ k = k ∧ True ∧ x = x ∧ y = y ∧ z = z ∧ w =
 w ∧ (True ∧ n = n) ∧ True) ∧ True ∧ (2 * n ≤ 2 * n ∧ ∀ (i : Nat), i < 2 * n → g i = g i) ∧ True ∧ (px = px ∧ py = py ∧ True) ∧ True ∧ (al = al ∧ True) ∧ True ∧ (3 = 3 ∧ 0 = 0 ∧ Prod.snd
((cpV g n qa qb qc qd px py al b ix i).2) = ((cpV g n qa qb qc qd px py al b ix i').2).2 ∧ True) ∧ True ∧ (4 = 4 ∧ 0 = 0 ∧ (Prod.snd
(cpV g n qa qb qc qd px py al b ix i)).1 = ((cpV g n qa qb qc qd px py al b ix i').2).1 ∧ True) ∧ True ∧ (102 = 102 ∧ 0 = 0 ∧ qa = qa ∧ qb = qb ∧ qc = qc ∧ qd = qd ∧
 True) ∧ True)) ∧ (decide ((↑i : Int) < (↑(nsg cl n (wz g)) : Int)) = false → True ∧ True ∧ (3 = 3 ∧ 0 = 0 ∧ ((cpV g n qa qb qc qd px py al b ix
 i).2).2 = ((cpV g n qa qb qc qd px py al b ix (nsg cl n (wz g))).2).2 ∧ True) ∧ True ∧ (4 = 4 ∧ 0 = 0 ∧ ((cpV g n qa
 qb qc qd px py al b ix i).2).1 = ((cpV g n qa qb qc qd px py al b ix (nsg cl n (wz g))).2).1 ∧ True) ∧ True)) := by kernel_rfl
theorem srCP : ConOk Tryz.prog 172 (conR srCPC) := by
 refine con_of_vc gssrCP Tryz.func172 rfl (by kernel_rfl) fun args => ?_
 unfold srCPC
 split
 · rename_i s qa qb qc qd p1 a1 x1 y1
   intro o0
   show RdM.All _ (match serOf o0.c with | some (cl, cw, cv, k, x, y, z, w, p, n) => _ | none => _) _
   split
   · rename_i cl cw cv k x y z w p n hm0
     intro o1
     show RdM.All _ (match fltsFrom .f64 o1.c with | some (m, g) => _ | none => _) _
     split
     · rename_i m1 g hm1
       intro o2
       show RdM.All _ (match bxP o2.c with | some (px, py) => _ | none => _) _
       split
       · rename_i px py hm2
         intro o3
         show RdM.All _ (match bxB o3.c with | some al => _ | none => _) _
         split
         · rename_i al hm3
           intro o4
           show RdM.All _ (match rwOk o4 3 0 with | true => _ | false => _) _
           split
           · rename_i hrw4
             show RdM.All _ (match bxI o4.c with | some ix => _ | none => _) _
             split
             · rename_i ix hm4
               intro o5
               show RdM.All _ (match rwOk o5 4 0 with | true => _ | false => _) _
               split
               · rename_i hrw5
                 show RdM.All _ (match bxB o5.c with | some b => _ | none => _) _
                 split
                 · rename_i b hm5
                   intro ho
                   replace ho : m1 = 2 * n ∧ n ≤ 1000000 ∧ SmF g (2 * n) ∧ W1 px ∧ W1 py := ho
                   obtain ⟨hsz1, ho⟩ := ho
                   subst hsz1
                   refine ⟨?_, _, _, (vc_srCP cl cw cv k x y z w p n qa qb qc qd px py al b ix g).mpr ?_⟩
                   · refine okFlag_mk rfl ⟨?_, ⟨trivial, serOf_spec hm0 (by simp [sgSig, fsts, nth, sameN_self]), ⟨trivial, (contR_flts hm1).1, ⟨trivial, bxP_spec hm2, ⟨trivial, bxB_spec hm3, ⟨trivial, obR_rw hrw4 (bxI_spec hm4), ⟨trivial, obR_rw hrw5 (bxB_spec hm5), trivial⟩⟩⟩⟩⟩⟩⟩
                     simp [eqvRL, eqvR, fkEq_self, sgSig, fsts, nth, sameN_self]
                   · obtain ⟨hn, hg, hx, hy⟩ := ho
                     have hns := nsg_le cl n (wz g)
                     generalize nsg cl n (wz g) = N at hns ⊢
                     simp only [true_and, and_true, eq_self, Nat.le_refl, implies_true, Int.toNat_natCast]
                     refine ⟨⟨hn, hg⟩, ⟨0, by simp [cpV, cpR]⟩, fun i hi => ⟨fun h => ?_, fun h => ?_⟩⟩
                     · have h := of_decide_eq_true h
                       have hiN : i < N := by omega
                       have n1 := nx_lt (show i < n by omega)
                       have hw : IntKind.i64.wrap ((i : Int) + 1) = ((i + 1 : Nat) : Int) := by rw [wrap64 (by omega) (by omega)]; omega
                       have step : cpV g n qa qb qc qd px py al b ix (i + 1) = if (cpV g n qa qb qc qd px py al b ix i).1 = true ∨ mtF g n qa qb qc qd i = false then cpV g n qa qb qc qd px py al b ix i else if onS g n px py i = true then (true, al, (i : Int)) else (false, xor (cpV g n qa qb qc qd px py al b ix i).2.1 (lfS g n px py i), (cpV g n qa qb qc qd px py al b ix i).2.2) := rfl
                       rw [hw]
                       refine ⟨⟨by omega, by omega, hn⟩, fun hm => ⟨pw_of (hg _ (by omega)) (hg _ (by omega)) (hg _ (by omega)) (hg _ (by omega)) hx hy, fun ho => ?_, fun ho => ?_⟩, fun hm => ?_⟩
                       · have ho' : onS g n px py i = true := by unfold onS; simpa using ho
                         have hm' : mtF g n qa qb qc qd i = true := hm
                         have s1 : cpV g n qa qb qc qd px py al b ix (i + 1) = (true, al, (i : Int)) := by rw [step, if_neg (by simp [hi.2, hm']), if_pos ho']
                         have s2 : cpV g n qa qb qc qd px py al b ix N = cpV g n qa qb qc qd px py al b ix (i + 1) := cpR_stop (show (cpV g n qa qb qc qd px py al b ix (i + 1)).1 = true by rw [s1]) N (by omega)
                         rw [s2, s1]
                         unfold onS at ho'
                         rw [if_pos ho', if_pos ho']
                         simp
                       · have ho' : onS g n px py i = false := by unfold onS; simpa using ho
                         have hm' : mtF g n qa qb qc qd i = true := hm
                         have s1 : cpV g n qa qb qc qd px py al b ix (i + 1) = (false, xor (cpV g n qa qb qc qd px py al b ix i).2.1 (lfS g n px py i), (cpV g n qa qb qc qd px py al b ix i).2.2) := by rw [step, if_neg (by simp [hi.2, hm']), if_neg (by simp [ho'])]
                         refine ⟨i + 1, ⟨by omega, by rw [s1]⟩, by omega, rfl, ?_⟩
                         rw [s1]
                         unfold onS at ho'
                         rw [if_neg (by rw [ho']; simp), if_neg (by rw [ho']; simp)]
                         simp [lfS]
                       · have hm' : mtF g n qa qb qc qd i = false := hm
                         have s1 : cpV g n qa qb qc qd px py al b ix (i + 1) = cpV g n qa qb qc qd px py al b ix i := by rw [step, if_pos (.inr hm')]
                         exact ⟨i + 1, ⟨by omega, by rw [s1]; exact hi.2⟩, by omega, rfl, by rw [s1]; simp⟩
                     · have h := of_decide_eq_false h
                       have : i = N := by omega
                       subst this
                       simp
                 · trivial
               · trivial
             · trivial
           · trivial
         · trivial
       · trivial
     · trivial
   · trivial
 · trivial
noncomputable def Gcb : Ctx := ⟨⟨tys, []⟩, [(172, conR srCPC)]⟩
theorem gcb : CtxOk Tryz.prog Gcb := ⟨⟨tysOk, FlatsOk.nil⟩, GamOk.cons srCP GamOk.nil, by kernel_rfl⟩
noncomputable def rcpBC : List SV → RdM
 | [.agg [.flt .f64 qa, .flt .f64 qb, .flt .f64 qc, .flt .f64 qd], .ptr s 0, .agg [.flt .f64 px, .flt .f64 py], v] => .read s fun o0 => (match serOf o0.c with
   | some (cl, cw, cv, k, x, y, z, w, p, n) => .read p fun o1 => (match fltsFrom .f64 o1.c with
   | some (m1, g) => (match v.toB with
   | some al => .ret ⟨[.agg [.flt .f64 qa, .flt .f64 qb, .flt .f64 qc, .flt .f64 qd], .ptr 0 0, .agg [.flt .f64 px, .flt .f64 py], .bool al], [(0, ⟨false, 150, serC cl cw cv k x y z w 1 n, 0⟩), (1, ⟨false, 100, .flts .f64 m1 g, 0⟩)], .tup [.bool (cpV g n qa qb qc qd px py al false (-1) (nsg cl n (wz g))).2.1, .int .i64 (cpV g n qa qb qc qd px py al false (-1) (nsg cl n (wz g))).2.2], [], [], some (m1 = 2 * n ∧ n ≤ 1000000 ∧ SmF g (2 * n) ∧ W1 px ∧ W1 py)⟩
   | none => .fail)
   | none => .fail)
   | none => .fail)
 | _ => .fail
theorem vc_rcpB (cl cw cv : Bool) (k : Int) (x y z w : Nat) (_ : Nm) (n : Nat) (qa qb qc qd px py : Nat) (al : Bool)  (g : Nat → Nat) : runA Gcb 2 [] [] (codeOf Tryz.f179) (init Tryz.f179.ntmps [.agg [.flt .f64 qa, .flt .f64 qb, .flt .f64 qc, .flt .f64 qd], .ptr 0 0, .agg [.flt .f64 px, .flt .f64 py], .bool al] [(0, ⟨false, 150, serC cl cw cv k x y z w 1 n, 0⟩), (1, ⟨false, 100, .flts .f64 (2 * n) g, 0⟩)] 2) (endK Gcb.E.T Tryz.f179.results.toList fun S v => postP 2 ⟨[.agg [.flt .f64 qa, .flt .f64 qb, .flt .f64 qc, .flt .f64 qd], .ptr 0 0, .agg [.flt .f64 px, .flt .f64 py], .bool al], [(0, ⟨false, 150, serC cl cw cv k x y z w 1 n, 0⟩), (1, ⟨false, 100, .flts .f64 (2 * n) g, 0⟩)], .tup [.bool (cpV g n qa qb qc qd px py al false (-1) (nsg cl n (wz g))).2.1, .int .i64 (cpV g n qa qb qc qd px py al false (-1) (nsg cl n (wz g))).2.2], [], [], some (2 * n = 2 * n ∧ n ≤ 1000000 ∧ SmF g (2 * n) ∧ W1 px ∧ W1 py)⟩ S v) = (
(2 * n = 2 * n ∧ n ≤ 1000000 ∧ SmF g (2 * n) ∧ W1 px ∧ W1 py) ∧ true = true ∧ (((cpV g n qa qb qc qd px py al false (-1 : Int)
(nsg cl n (wz g))).2).1 = ((cpV g n qa qb qc qd px py al false (-1 : Int) (nsg cl n (wz g))).2).1 ∧ ((cpV g n qa
 qb qc qd px py al false (-1 : Int) (nsg cl n (wz g))).2).2 = ((cpV g n qa qb qc qd px py al false (-1 : Int) (nsg cl n (wz g))).2).2 ∧ True) ∧ True) := by kernel_rfl
theorem rcpB : ConOk Tryz.prog 179 (conR rcpBC) := by
 refine con_of_vc gcb Tryz.func179 rfl (by kernel_rfl) fun args => ?_
 unfold rcpBC
 split
 · rename_i qa qb qc qd s px py v
   intro o0
   show RdM.All _ (match serOf o0.c with | some (cl, cw, cv, k, x, y, z, w, p, n) => _ | none => _) _
   split
   · rename_i cl cw cv k x y z w p n hm0
     intro o1
     show RdM.All _ (match fltsFrom .f64 o1.c with | some (m, g) => _ | none => _) _
     split
     · rename_i m1 g hm1
       show RdM.All _ (match v.toB with | some b => _ | none => _) _
       split
       · rename_i al hal
         intro ho
         replace ho : m1 = 2 * n ∧ n ≤ 1000000 ∧ SmF g (2 * n) ∧ W1 px ∧ W1 py := ho
         obtain ⟨hsz1, ho⟩ := ho
         subst hsz1
         refine ⟨?_, _, _, (vc_rcpB cl cw cv k x y z w p n qa qb qc qd px py al g).mpr ?_⟩
         · refine okFlag_mk rfl ⟨?_, ⟨trivial, serOf_spec hm0 (by simp [sgSig, fsts, nth, sameN_self]), ⟨trivial, (contR_flts hm1).1, trivial⟩⟩⟩
           simp [eqvRL, eqvR, fkEq_self, sgSig, fsts, nth, sameN_self, toB_eqvR hal]
         · simp [ho]
       · trivial
     · trivial
   · trivial
 · trivial
def hasF (x y z w px py : Nat) : Bool := fGe .f64 px x && fLe .f64 px z && fGe .f64 py y && fLe .f64 py w
noncomputable def rcp (g : Nat → Nat) (n ns x y z w px py : Nat) (al : Bool) : Bool × Int :=
 if hasF x y z w px py = true then (cpV g n ninfw py infw py px py al false (-1) ns).2 else (false, -1)
noncomputable def Gcs : Ctx := ⟨⟨tys, []⟩, [(164, conR sRectSC), (169, pureCon rHasF), (100, pureCon inf2F), (179, conR rcpBC)]⟩
theorem gcs : CtxOk Tryz.prog Gcs := ⟨⟨tysOk, FlatsOk.nil⟩, GamOk.cons sRectS (GamOk.cons (.pure rHas) (GamOk.cons (.pure inf2) (GamOk.cons rcpB GamOk.nil))), by kernel_rfl⟩
noncomputable def rcpSC : List SV → RdM
 | [.ifc 157 (.ptr s 0), .agg [.flt .f64 px, .flt .f64 py], v] => .read s fun o0 => (match serOf o0.c with
   | some (cl, cw, cv, k, x, y, z, w, p, n) => .read p fun o1 => (match fltsFrom .f64 o1.c with
   | some (m1, g) => (match v.toB with
   | some al => .ret ⟨[.ifc 157 (.ptr 0 0), .agg [.flt .f64 px, .flt .f64 py], .bool al], [(0, ⟨false, 150, serC cl cw cv k x y z w 1 n, 0⟩), (1, ⟨false, 100, .flts .f64 m1 g, 0⟩)], .agg [.bool (rcp g n (nsg cl n (wz g)) x y z w px py al).1, .int .i64 (rcp g n (nsg cl n (wz g)) x y z w px py al).2], [], [], some (m1 = 2 * n ∧ n ≤ 1000000 ∧ SmF g (2 * n) ∧ W1 px ∧ W1 py)⟩
   | none => .fail)
   | none => .fail)
   | none => .fail)
 | _ => .fail
theorem vc_rcpS (cl cw cv : Bool) (k : Int) (x y z w : Nat) (_ : Nm) (n : Nat) (px py : Nat) (al : Bool)  (g : Nat → Nat) : runA Gcs 2 [] [] (codeOf Tryz.f174) (init Tryz.f174.ntmps [.ifc 157 (.ptr 0 0), .agg [.flt .f64 px, .flt .f64 py], .bool al] [(0, ⟨false, 150, serC cl cw cv k x y z w 1 n, 0⟩), (1, ⟨false, 100, .flts .f64 (2 * n) g, 0⟩)] 2) (endK Gcs.E.T Tryz.f174.results.toList fun S v => postP 2 ⟨[.ifc 157 (.ptr 0 0), .agg [.flt .f64 px, .flt .f64 py], .bool al], [(0, ⟨false, 150, serC cl cw cv k x y z w 1 n, 0⟩), (1, ⟨false, 100, .flts .f64 (2 * n) g, 0⟩)], .agg [.bool (rcp g n (nsg cl n (wz g)) x y z w px py al).1, .int .i64 (rcp g n (nsg cl n (wz g)) x y z w px py al).2], [], [], some (2 * n = 2 * n ∧ n ≤ 1000000 ∧ SmF g (2 * n) ∧ W1 px ∧ W1 py)⟩ S v) = (
(2 * n = 2 * n ∧ True) ∧ true = true ∧ ((!(fGe .f64 px x && fLe .f64 px z && fGe .f64 py y && fLe .f64 py w)) = true → ((rcp g n (nsg cl n (wz g))
 x y z w px py al).1 = false ∧ (-1 : Int) = (rcp g n (nsg cl n (wz g)) x y z w px py al).2 ∧ True) ∧ True) ∧ ((!(fGe .f64 px x && fLe .f64 px z && fGe .f64 py y && fLe
.f64 py w)) = false → true = true ∧ (2 * n = 2 * n ∧ n ≤ 1000000 ∧ SmF g (2 * n) ∧ W1 px ∧ W1 py) ∧ (((cpV g n
18442240474082181120 py 9218868437227405312 py px py al false (-1 : Int) (nsg cl n (wz g))).2).1 = (rcp g n (nsg cl n (wz g)) x y z w px py
 al).1 ∧ ((cpV g n 18442240474082181120 py 9218868437227405312 py px py al false (-1 : Int) (nsg cl n (wz g))).2).2 = (rcp g n
(nsg cl n (wz g)) x y z w px py al).2 ∧ True) ∧ True)) := by kernel_rfl
theorem rcpS : ConOk Tryz.prog 174 (conR rcpSC) := by
 refine con_of_vc gcs Tryz.func174 rfl (by kernel_rfl) fun args => ?_
 unfold rcpSC
 split
 · rename_i s px py v
   intro o0
   show RdM.All _ (match serOf o0.c with | some (cl, cw, cv, k, x, y, z, w, p, n) => _ | none => _) _
   split
   · rename_i cl cw cv k x y z w p n hm0
     intro o1
     show RdM.All _ (match fltsFrom .f64 o1.c with | some (m, g) => _ | none => _) _
     split
     · rename_i m1 g hm1
       show RdM.All _ (match v.toB with | some b => _ | none => _) _
       split
       · rename_i al hal
         intro ho
         replace ho : m1 = 2 * n ∧ n ≤ 1000000 ∧ SmF g (2 * n) ∧ W1 px ∧ W1 py := ho
         obtain ⟨hsz1, ho⟩ := ho
         subst hsz1
         refine ⟨?_, _, _, (vc_rcpS cl cw cv k x y z w p n px py al g).mpr ?_⟩
         · refine okFlag_mk rfl ⟨?_, ⟨trivial, serOf_spec hm0 (by simp [sgSig, fsts, nth, sameN_self]), ⟨trivial, (contR_flts hm1).1, trivial⟩⟩⟩
           simp [eqvRL, eqvR, fkEq_self, sgSig, fsts, nth, sameN_self, toB_eqvR hal]
         · have e : (fGe .f64 px x && fLe .f64 px z && fGe .f64 py y && fLe .f64 py w) = hasF x y z w px py := rfl
           unfold rcp
           simp only [e]
           cases hasF x y z w px py <;> simp [ho, ninfw, infw]
       · trivial
     · trivial
   · trivial
 · trivial
def mt4 (a b c d p q r s : Nat) : Bool := !(fGt .f64 b s) && !(fLt .f64 d q) && !(fGt .f64 a r) && !(fLt .f64 c p)
def emp (cl : Bool) (n : Nat) : Bool := decide (n < 2 ∨ cl = true ∧ n < 3)
def inF (a b c d p q r s : Nat) : Bool := !(fLt .f64 p a) && !(fGt .f64 r c) && !(fLt .f64 q b) && !(fGt .f64 s d)
def allB (p : Nat → Bool) : Nat → Bool
 | 0 => true
 | i + 1 => allB p i && p i
theorem allB_no {p : Nat → Bool} : ∀ {i m : Nat}, i < m → p i = false → allB p m = false
 | i, 0, h, _ => by omega
 | i, m + 1, h, hp => by
   show (allB p m && p m) = false
   by_cases e : i = m
   · subst e; rw [hp]; simp
   · rw [allB_no (by omega) hp]; rfl
theorem anyB_not {p : Nat → Bool} : ∀ {m : Nat}, (∀ i, i < m → p i = false) → anyB p m = false
 | 0, _ => rfl
 | m + 1, h => by
   show (anyB p m || p m) = false
   rw [anyB_not (fun i hi => h i (by omega)), h m (by omega)]; rfl
def noneB (p : Nat → Bool) (i : Nat) : Prop := ∀ j, j < i → p j = false
noncomputable def newRingC : List SV → RdM
 | [.slcc n len, .ptr o 0] => .read n fun o0 => (match fltsFrom .f64 o0.c with
   | some (m0, g) => .read o fun o1 => (match optOf o1.c with
   | some (k, m) => .ret ⟨[.slcc 0 len, .ptr 1 0], [(0, ⟨false, 100, .flts .f64 m0 g, 0⟩), (1, ⟨false, 148, optC k m, 0⟩)], .ifc 157 (.ptr 2 0), [], [(2, ⟨true, 150, .cells (rectS len true g 3 0), 0⟩), (3, ⟨true, 100, .flts .f64 (2 * len) g, 2⟩)], some (m0 = 2 * len ∧ k = 0 ∧ len ≤ 1000000 ∧ (ppBig len true = true → ppOk g len))⟩
   | none => .fail)
   | none => .fail)
 | _ => .fail
theorem vc_newRing (len : Nat) (m : Int) (k : Int)  (g : Nat → Nat) : runA GNL 2 [] [] (codeOf Tryz.f101) (init Tryz.f101.ntmps [.slcc 0 len, .ptr 1 0] [(0, ⟨false, 100, .flts .f64 (2 * len) g, 0⟩), (1, ⟨false, 148, optC k m, 0⟩)] 2) (endK GNL.E.T Tryz.f101.results.toList fun S v => postP 2 ⟨[.slcc 0 len, .ptr 1 0], [(0, ⟨false, 100, .flts .f64 (2 * len) g, 0⟩), (1, ⟨false, 148, optC k m, 0⟩)], .ifc 157 (.ptr 2 0), [], [(2, ⟨true, 150, .cells (rectS len true g 3 0), 0⟩), (3, ⟨true, 100, .flts .f64 (2 * len) g, 2⟩)], some (2 * len = 2 * len ∧ k = 0 ∧ len ≤ 1000000 ∧ (ppBig len true = true → ppOk g len))⟩ S v) = (
(2 * len = 2 * len ∧ k = (0 : Int) ∧ len ≤ 1000000 ∧ (ppBig len true = true → ppOk g len)) ∧ (True ∧ 0 = 0) ∧ True ∧ (150 = 150 ∧ 0 = 0 ∧ true
= true ∧ (ppBig len true && fGt .f64 (cwF g len len) 0) = (ppBig len true && fGt .f64 (cwF g len len) 0) ∧ (ppBig len true &&
!(dcF g len len).2) = (ppBig len true && !(dcF g len len).2) ∧ (0 : Int) = 0 ∧ True ∧ pick (ppBig len true) (rlo g 0 len) = pick (ppBig len true) (rlo g 0 len) ∧ pick (ppBig len true) (rlo g 1 len) = pick
(ppBig len true) (rlo g 1 len) ∧ pick (ppBig len true) (rhi g 0 len) = pick (ppBig len true)
(rhi g 0 len) ∧ pick (ppBig len true) (rhi g 1 len) = pick (ppBig len true) (rhi g 1 len) ∧ (True ∧
 len = len) ∧ True) ∧ True ∧ (100 = 100 ∧ 2 = 2 ∧ 2 * len ≤ 2 * len ∧ ∀ (i : Nat), i < 2 * len → g i = g i) ∧ True) := by kernel_rfl
theorem newRing : ConOk Tryz.prog 101 (conR newRingC) := by
 refine con_of_vc gNL Tryz.func101 rfl (by kernel_rfl) fun args => ?_
 unfold newRingC
 split
 · rename_i n len o
   intro o0
   show RdM.All _ (match fltsFrom .f64 o0.c with | some (m, g) => _ | none => _) _
   split
   · rename_i m0 g hm0
     intro o1
     show RdM.All _ (match optOf o1.c with | some (k, m) => _ | none => _) _
     split
     · rename_i k m hm1
       intro ho
       replace ho : m0 = 2 * len ∧ k = 0 ∧ len ≤ 1000000 ∧ (ppBig len true = true → ppOk g len) := ho
       obtain ⟨hsz0, ho⟩ := ho
       subst hsz0
       refine ⟨?_, _, _, (vc_newRing len m k g).mpr ?_⟩
       · refine okFlag_mk rfl ⟨?_, ⟨trivial, (contR_flts hm0).1, ⟨trivial, optOf_spec hm1, trivial⟩⟩⟩
         simp [eqvRL, eqvR, sgSig, fsts, nth, sameN_self]
       · obtain ⟨hk, hl, hok⟩ := ho
         simp [hk, hl]
         exact hok
     · trivial
   · trivial
 · trivial
noncomputable def GNP : Ctx := ⟨⟨tys, []⟩, [(101, conR newRingC)]⟩
theorem gNP : CtxOk Tryz.prog GNP := ⟨⟨tysOk, FlatsOk.nil⟩, GamOk.cons newRing GamOk.nil, by kernel_rfl⟩
noncomputable def newPoly0C : List SV → RdM
 | [.slcc n len, .nils, .ptr o 0] => .read n fun o0 => (match fltsFrom .f64 o0.c with
   | some (m0, g) => .read o fun o1 => (match optOf o1.c with
   | some (k, m) => .ret ⟨[.slcc 0 len, .nils, .ptr 1 0], [(0, ⟨false, 100, .flts .f64 m0 g, 0⟩), (1, ⟨false, 148, optC k m, 0⟩)], .ptr 2 0, [], [(2, ⟨true, 137, .cells [.ifc 157 (.ptr 3 0), .nils], 0⟩), (3, ⟨true, 150, .cells (rectS len true g 4 0), 0⟩), (4, ⟨true, 100, .flts .f64 (2 * len) g, 2⟩)], some (m0 = 2 * len ∧ k = 0 ∧ len ≤ 1000000 ∧ (ppBig len true = true → ppOk g len))⟩
   | none => .fail)
   | none => .fail)
 | _ => .fail
theorem vc_newPoly0 (len : Nat) (m : Int) (k : Int)  (g : Nat → Nat) : runA GNP 2 [] [] (codeOf Tryz.f91) (init Tryz.f91.ntmps [.slcc 0 len, .nils, .ptr 1 0] [(0, ⟨false, 100, .flts .f64 (2 * len) g, 0⟩), (1, ⟨false, 148, optC k m, 0⟩)] 2) (endK GNP.E.T Tryz.f91.results.toList fun S v => postP 2 ⟨[.slcc 0 len, .nils, .ptr 1 0], [(0, ⟨false, 100, .flts .f64 (2 * len) g, 0⟩), (1, ⟨false, 148, optC k m, 0⟩)], .ptr 2 0, [], [(2, ⟨true, 137, .cells [.ifc 157 (.ptr 3 0), .nils], 0⟩), (3, ⟨true, 150, .cells (rectS len true g 4 0), 0⟩), (4, ⟨true, 100, .flts .f64 (2 * len) g, 2⟩)], some (2 * len = 2 * len ∧ k = 0 ∧ len ≤ 1000000 ∧ (ppBig len true = true → ppOk g len))⟩ S v) = (
(2 * len = 2 * len ∧ k = (0 : Int) ∧ len ≤ 1000000 ∧ (ppBig len true = true → ppOk g len)) ∧ (false = true → ((0 : Int) = 0 ∧ (0 : Int) ≤ 0 ∧ (0 : Int) ≤ (9223372036854775807
: Int) ∧ (0 : Int) ≤ 140737488355328) ∧ False) ∧ (false = false → (True ∧ 0 = 0) ∧ True ∧ (137 = 137 ∧ 0 = 0 ∧ (True ∧ 0 = 0) ∧ True ∧ True) ∧ True ∧ (150 = 150 ∧
0 = 0 ∧ true = true ∧ (ppBig len true && fGt .f64 (cwF g len len) 0) = (ppBig len true && fGt .f64 (cwF g len len) 0) ∧
(ppBig len true && !(dcF g len len).2) = (ppBig len true && !(dcF g len len).2) ∧ (0 : Int) = 0 ∧ True ∧ pick (ppBig len
 true) (rlo g 0 len) = pick (ppBig len true) (rlo g 0 len) ∧ pick (ppBig len true) (rlo g 1 len) =
 pick (ppBig len true) (rlo g 1 len) ∧ pick (ppBig len true) (rhi g 0 len) = pick (ppBig
 len true) (rhi g 0 len) ∧ pick (ppBig len true) (rhi g 1 len) = pick (ppBig len true) (rhi g 1 len)
∧ (True ∧ len = len) ∧ True) ∧ True ∧ (100 = 100 ∧ 2 = 2 ∧ 2 * len ≤ 2 * len ∧ ∀ (i : Nat), i < 2 * len → g i = g i) ∧ True)) := by kernel_rfl
theorem newPoly0 : ConOk Tryz.prog 91 (conR newPoly0C) := by
 refine con_of_vc gNP Tryz.func91 rfl (by kernel_rfl) fun args => ?_
 unfold newPoly0C
 split
 · rename_i n len o
   intro o0
   show RdM.All _ (match fltsFrom .f64 o0.c with | some (m, g) => _ | none => _) _
   split
   · rename_i m0 g hm0
     intro o1
     show RdM.All _ (match optOf o1.c with | some (k, m) => _ | none => _) _
     split
     · rename_i k m hm1
       intro ho
       replace ho : m0 = 2 * len ∧ k = 0 ∧ len ≤ 1000000 ∧ (ppBig len true = true → ppOk g len) := ho
       obtain ⟨hsz0, ho⟩ := ho
       subst hsz0
       refine ⟨?_, _, _, (vc_newPoly0 len m k g).mpr ?_⟩
       · refine okFlag_mk rfl ⟨?_, ⟨trivial, (contR_flts hm0).1, ⟨trivial, optOf_spec hm1, trivial⟩⟩⟩
         simp [eqvRL, eqvR, sgSig, fsts, nth, sameN_self]
       · obtain ⟨hk, hl, hok⟩ := ho
         simp [hk, hl]
         exact hok
     · trivial
   · trivial
 · trivial
def holOf : Cont → Option (Nm × Nat)
 | .cells [.slcc q m] => some (q, m)
 | _ => none
theorem holOf_spec {σ : Sig} {c : Cont} {p q : Nm} {n : Nat} (h : holOf c = some (p, n)) (hs : sameN (σ q) p) : contR σ c (.cells [.slcc q n]) := by
 unfold holOf at h
 split at h
 · simp only [Option.some.injEq, Prod.mk.injEq] at h
   obtain ⟨rfl, rfl⟩ := h
   show eqvRL σ _ _
   simp [eqvRL, eqvR, hs]
 · cases h
def np6 (len hl : Nat) (km : Int × Int) (g gh : Nat → Nat) (i : Int) (hc : SV) (x : Heap) (m : Nat) : Fam := ⟨Nat, fun _ =>
 ⟨44, [(1, .slcc 1 1), (2, .ptr 3 0), (7, .ptr 4 0), (26, .int .i64 1), (27, .int .i64 i)], [(1, ⟨false, 118, .cells [.slcc 2 hl], 0⟩), (2, ⟨false, 100, .flts .f64 (2 * hl) gh, 0⟩), (3, ⟨false, 148, optC km.1 km.2, 0⟩), (4, ⟨true, 137, .cells [.ifc 157 (.ptr 6 0), .slcc 5 1], 0⟩), (5, ⟨true, 106, .cells [hc], 1⟩), (6, ⟨true, 150, .cells (rectS len true g 7 0), 0⟩), (7, ⟨true, 100, .flts .f64 (2 * len) g, 2⟩)] ++ x, m⟩, fun _ => True, fun _ => 0⟩
noncomputable def newPoly1C : List SV → RdM
 | [.slcc n len, .slcc h 1, .ptr o 0] => .read n fun o0 => (match fltsFrom .f64 o0.c with
   | some (m0, g) => .read h fun o1 => (match holOf o1.c with
   | some (q, hl) => .read q fun o2 => (match fltsFrom .f64 o2.c with
   | some (m2, gh) => .read o fun o3 => (match optOf o3.c with
   | some (k, m) => .ret ⟨[.slcc 0 len, .slcc 1 1, .ptr 3 0], [(0, ⟨false, 100, .flts .f64 m0 g, 0⟩), (1, ⟨false, 118, .cells [.slcc 2 hl], 0⟩), (2, ⟨false, 100, .flts .f64 m2 gh, 0⟩), (3, ⟨false, 148, optC k m, 0⟩)], .ptr 4 0, [], [(4, ⟨true, 137, .cells [.ifc 157 (.ptr 6 0), .slcc 5 1], 0⟩), (5, ⟨true, 106, .cells [.ifc 157 (.ptr 8 0)], 1⟩), (6, ⟨true, 150, .cells (rectS len true g 7 0), 0⟩), (7, ⟨true, 100, .flts .f64 (2 * len) g, 2⟩), (8, ⟨true, 150, .cells (rectS hl true gh 9 0), 0⟩), (9, ⟨true, 100, .flts .f64 (2 * hl) gh, 2⟩)], some (m0 = 2 * len ∧ m2 = 2 * hl ∧ k = 0 ∧ (len ≤ 1000000 ∧ (ppBig len true = true → ppOk g len)) ∧ (hl ≤ 1000000 ∧ (ppBig hl true = true → ppOk gh hl)))⟩
   | none => .fail)
   | none => .fail)
   | none => .fail)
   | none => .fail)
 | _ => .fail
theorem vc_newPoly1 (len hl : Nat) (m : Int) (k : Int) (_ : Nm)  (g : Nat → Nat) (gh : Nat → Nat) : runA GNP 4 [(6, .unr [np6 len hl (k, m) g gh 0 .nili [] 8, np6 len hl (k, m) g gh 1 (.ifc 157 (.ptr 8 0)) [(8, ⟨true, 150, .cells (rectS hl true gh 9 0), 0⟩), (9, ⟨true, 100, .flts .f64 (2 * hl) gh, 2⟩)] 10])] [] (codeOf Tryz.f91) (init Tryz.f91.ntmps [.slcc 0 len, .slcc 1 1, .ptr 3 0] [(0, ⟨false, 100, .flts .f64 (2 * len) g, 0⟩), (1, ⟨false, 118, .cells [.slcc 2 hl], 0⟩), (2, ⟨false, 100, .flts .f64 (2 * hl) gh, 0⟩), (3, ⟨false, 148, optC k m, 0⟩)] 4) (endK GNP.E.T Tryz.f91.results.toList fun S v => postP 4 ⟨[.slcc 0 len, .slcc 1 1, .ptr 3 0], [(0, ⟨false, 100, .flts .f64 (2 * len) g, 0⟩), (1, ⟨false, 118, .cells [.slcc 2 hl], 0⟩), (2, ⟨false, 100, .flts .f64 (2 * hl) gh, 0⟩), (3, ⟨false, 148, optC k m, 0⟩)], .ptr 4 0, [], [(4, ⟨true, 137, .cells [.ifc 157 (.ptr 6 0), .slcc 5 1], 0⟩), (5, ⟨true, 106, .cells [.ifc 157 (.ptr 8 0)], 1⟩), (6, ⟨true, 150, .cells (rectS len true g 7 0), 0⟩), (7, ⟨true, 100, .flts .f64 (2 * len) g, 2⟩), (8, ⟨true, 150, .cells (rectS hl true gh 9 0), 0⟩), (9, ⟨true, 100, .flts .f64 (2 * hl) gh, 2⟩)], some (2 * len = 2 * len ∧ 2 * hl = 2 * hl ∧ k = 0 ∧ (len ≤ 1000000 ∧ (ppBig len true = true → ppOk g len)) ∧ (hl ≤ 1000000 ∧ (ppBig hl true = true → ppOk gh hl)))⟩ S v) = (
(2 * len = 2 * len ∧ k = (0 : Int) ∧ len ≤ 1000000 ∧ (ppBig len true = true → ppOk g len)) ∧ (true = true → ((1 : Int) = 1 ∧ (0 : Int) ≤ 1 ∧ (1 : Int) ≤ (9223372036854775807
: Int) ∧ (16 : Int) ≤ 140737488355328) ∧ (∃ (_ : Nat), True ∧ ((True ∧ 1 = 1) ∧ (True ∧ 0 = 0) ∧ (True ∧ 0 = 0) ∧ (1 : Int) = 1 ∧ (0 : Int) = 0 ∧ True) ∧ True ∧ ((True ∧ hl = hl)
∧ True) ∧ True ∧ (2 * hl ≤ 2 * hl ∧ ∀ (i : Nat), i < 2 * hl → gh i = gh i) ∧ True ∧ (k = k ∧ m = m ∧ True) ∧ True ∧ (137 = 137 ∧ 0 = 0 ∧ (True ∧ 0 = 0) ∧ (True ∧ 1 = 1) ∧ True) ∧ True ∧ (106 = 106 ∧ 1 = 1 ∧ True ∧ 1 ≤ 1) ∧ True ∧ (150 = 150 ∧ 0 = 0 ∧ true = true ∧ (ppBig len true && fGt .f64
(cwF g len len) 0) = (ppBig len true && fGt .f64 (cwF g len len) 0) ∧ (ppBig len true && !(dcF g len len).2) =
(ppBig len true && !(dcF g len len).2) ∧ (0 : Int) = 0 ∧ True ∧ pick (ppBig len true) (rlo g 0 len) = pick
(ppBig len true) (rlo g 0 len) ∧ pick (ppBig len true) (rlo g 1 len) = pick (ppBig len true)
(rlo g 1 len) ∧ pick (ppBig len true) (rhi g 0 len) = pick (ppBig len true) (rhi g 0 len) ∧
 pick (ppBig len true) (rhi g 1 len) = pick (ppBig len true) (rhi g 1 len) ∧ (True ∧ len = len) ∧ True) ∧ True ∧ (100 =
100 ∧ 2 = 2 ∧ 2 * len ≤ 2 * len ∧ ∀ (i : Nat), i < 2 * len → g i = g i) ∧ True) ∧ (∀ (_ : Nat), True → (true = true → (((0 : Int) ≤ 0 ∧ (0 : Int) < 1) ∧ True) ∧ (2 * hl = 2 * hl ∧ k = (0 : Int) ∧ hl ≤ 1000000 ∧ (ppBig hl true = true → ppOk gh hl)) ∧ (((0 : Int) ≤ 0 ∧ (0 : Int) < 1) ∧ True) ∧ true = true ∧ ∃ (_ : Nat), True ∧ ((True ∧ 1 = 1)
∧ (True ∧ 0 = 0) ∧ (True ∧ 0 = 0) ∧ (1 : Int) = 1 ∧ (1 : Int) = 1 ∧ True) ∧ True ∧ ((True ∧ hl = hl) ∧ True) ∧ True ∧ (2 * hl ≤ 2 * hl ∧ ∀ (i : Nat), i < 2 * hl → gh i = gh i) ∧
 True ∧ (k = k ∧ m = m ∧ True) ∧ True ∧ (137 = 137 ∧ 0 = 0 ∧ (True ∧ 0 = 0) ∧ (True ∧ 1 = 1) ∧ True) ∧ True ∧ (106 = 106 ∧ 1 = 1 ∧ (True ∧ 0 = 0) ∧ True) ∧ True ∧ (150 = 150 ∧ 0 = 0 ∧ true = true ∧ (ppBig len true && fGt .f64 (cwF g len len) 0) = (ppBig len true && fGt .f64
(cwF g len len) 0) ∧ (ppBig len true && !(dcF g len len).2) = (ppBig len true && !(dcF g len len).2) ∧ (0 : Int) = 0 ∧ True ∧
 pick (ppBig len true) (rlo g 0 len) = pick (ppBig len true) (rlo g 0 len) ∧ pick (ppBig
 len true) (rlo g 1 len) = pick (ppBig len true) (rlo g 1 len) ∧ pick (ppBig len true) (rhi g 0 len)
= pick (ppBig len true) (rhi g 0 len) ∧ pick (ppBig len true) (rhi g 1 len) = pick (ppBig
 len true) (rhi g 1 len) ∧ (True ∧ len = len) ∧ True) ∧ True ∧ (100 = 100 ∧ 2 = 2 ∧ 2 * len ≤ 2 * len ∧ ∀ (i : Nat), i < 2 * len → g i = g i) ∧ True ∧ (150 =
150 ∧ 0 = 0 ∧ true = true ∧ (ppBig hl true && fGt .f64 (cwF gh hl hl) 0) = (ppBig hl true && fGt .f64 (cwF gh hl hl) 0) ∧
(ppBig hl true && !(dcF gh hl hl).2) = (ppBig hl true && !(dcF gh hl hl).2) ∧ (0 : Int) = 0 ∧ True ∧ pick (ppBig hl
 true) (rlo gh 0 hl) = pick (ppBig hl true) (rlo gh 0 hl) ∧ pick (ppBig hl true) (rlo gh 1 hl) =
 pick (ppBig hl true) (rlo gh 1 hl) ∧ pick (ppBig hl true) (rhi gh 0 hl) = pick (ppBig hl
 true) (rhi gh 0 hl) ∧ pick (ppBig hl true) (rhi gh 1 hl) = pick (ppBig hl true) (rhi gh 1 hl) ∧
(True ∧ hl = hl) ∧ True) ∧ True ∧ (100 = 100 ∧ 2 = 2 ∧ 2 * hl ≤ 2 * hl ∧ ∀ (i : Nat), i < 2 * hl → gh i = gh i) ∧ True) ∧ (true = false → (True ∧ 0 = 0) ∧ True ∧ (137 =
137 ∧ 0 = 0 ∧ (True ∧ 0 = 0) ∧ (True ∧ 1 = 1) ∧ True) ∧ True ∧ (106 = 106 ∧ 1 = 1 ∧ False ∧ True) ∧ True ∧ (150 = 150 ∧ 0 = 0 ∧
 true = true ∧ (ppBig len true && fGt .f64 (cwF g len len) 0) = (ppBig len true && fGt .f64 (cwF g len len) 0) ∧ (ppBig len true &&
!(dcF g len len).2) = (ppBig len true && !(dcF g len len).2) ∧ (0 : Int) = 0 ∧ True ∧ pick (ppBig len true) (rlo g 0 len) = pick (ppBig len true) (rlo g 0 len) ∧ pick (ppBig len true) (rlo g 1 len) = pick
(ppBig len true) (rlo g 1 len) ∧ pick (ppBig len true) (rhi g 0 len) = pick (ppBig len true)
(rhi g 0 len) ∧ pick (ppBig len true) (rhi g 1 len) = pick (ppBig len true) (rhi g 1 len) ∧ (True ∧
 len = len) ∧ True) ∧ True ∧ (100 = 100 ∧ 2 = 2 ∧ 2 * len ≤ 2 * len ∧ ∀ (i : Nat), i < 2 * len → g i = g i) ∧ True ∧ List.length (rectS hl true gh 9 (0 : Int)) = 0 ∧ True ∧ 2 * hl = 0 ∧ True)) ∧ (∀ (_ : Nat), True → (false = true → False) ∧ (false = false → (True ∧ 0 = 0) ∧ True ∧ (137 = 137 ∧ 0 = 0 ∧ (True ∧ 0 = 0) ∧ (True ∧
1 = 1) ∧ True) ∧ True ∧ (106 = 106 ∧ 1 = 1 ∧ (True ∧ 0 = 0) ∧ True) ∧ True ∧ (150 = 150 ∧ 0 = 0 ∧ true = true ∧ (ppBig len true &&
 fGt .f64 (cwF g len len) 0) = (ppBig len true && fGt .f64 (cwF g len len) 0) ∧ (ppBig len true && !(dcF g len len).2) =
(ppBig len true && !(dcF g len len).2) ∧ (0 : Int) = 0 ∧ True ∧ pick (ppBig len true) (rlo g 0 len) = pick
(ppBig len true) (rlo g 0 len) ∧ pick (ppBig len true) (rlo g 1 len) = pick (ppBig len true)
(rlo g 1 len) ∧ pick (ppBig len true) (rhi g 0 len) = pick (ppBig len true) (rhi g 0 len) ∧
 pick (ppBig len true) (rhi g 1 len) = pick (ppBig len true) (rhi g 1 len) ∧ (True ∧ len = len) ∧ True) ∧ True ∧ (100 =
100 ∧ 2 = 2 ∧ 2 * len ≤ 2 * len ∧ ∀ (i : Nat), i < 2 * len → g i = g i) ∧ True ∧ (150 = 150 ∧ 0 = 0 ∧ true = true ∧ (ppBig hl true && fGt .f64
(cwF gh hl hl) 0) = (ppBig hl true && fGt .f64 (cwF gh hl hl) 0) ∧ (ppBig hl true && !(dcF gh hl hl).2) = (ppBig
 hl true && !(dcF gh hl hl).2) ∧ (0 : Int) = 0 ∧ True ∧ pick (ppBig hl true) (rlo gh 0 hl) = pick (ppBig hl true)
(rlo gh 0 hl) ∧ pick (ppBig hl true) (rlo gh 1 hl) = pick (ppBig hl true) (rlo gh 1 hl) ∧
 pick (ppBig hl true) (rhi gh 0 hl) = pick (ppBig hl true) (rhi gh 0 hl) ∧ pick (ppBig hl
 true) (rhi gh 1 hl) = pick (ppBig hl true) (rhi gh 1 hl) ∧ (True ∧ hl = hl) ∧ True) ∧ True ∧ (100 = 100 ∧ 2 = 2 ∧ 2 * hl ≤
2 * hl ∧ ∀ (i : Nat), i < 2 * hl → gh i = gh i) ∧ True)) ∧ True) ∧ (true = false → (True ∧ 0 = 0) ∧ True ∧ (137 = 137 ∧ 0 = 0 ∧ (True ∧ 0 = 0) ∧ 1 = 0 ∧
 True) ∧ True ∧ 1 = 0 ∧ True ∧ (150 = 150 ∧ 0 = 0 ∧ true = true ∧ (ppBig len true && fGt .f64 (cwF g len len) 0) = (ppBig len true &&
 fGt .f64 (cwF g len len) 0) ∧ (ppBig len true && !(dcF g len len).2) = (ppBig len true && !(dcF g len len).2) ∧ (0 : Int) = (0 :
 Int) ∧ True ∧ pick (ppBig len true) (rlo g 0 len) = pick (ppBig len true) (rlo g 0 len) ∧ pick
(ppBig len true) (rlo g 1 len) = pick (ppBig len true) (rlo g 1 len) ∧ pick (ppBig len true)
(rhi g 0 len) = pick (ppBig len true) (rhi g 0 len) ∧ pick (ppBig len true) (rhi g 1 len) =
 pick (ppBig len true) (rhi g 1 len) ∧ (True ∧ len = len) ∧ True) ∧ True ∧ (100 = 100 ∧ 2 = 2 ∧ 2 * len ≤ 2 * len ∧ ∀ (i : Nat), i < 2 * len → g i = g i) ∧ True ∧ List.length (rectS hl true gh 9 (0 : Int)) = 0 ∧ True ∧ 2 * hl = 0 ∧ True)) := by kernel_rfl
theorem newPoly1 : ConOk Tryz.prog 91 (conR newPoly1C) := by
 refine con_of_vc gNP Tryz.func91 rfl (by kernel_rfl) fun args => ?_
 unfold newPoly1C
 split
 · rename_i n len h o
   intro o0
   show RdM.All _ (match fltsFrom .f64 o0.c with | some (m, g) => _ | none => _) _
   split
   · rename_i m0 g hm0
     intro o1
     show RdM.All _ (match holOf o1.c with | some (q, hl) => _ | none => _) _
     split
     · rename_i q hl hm1
       intro o2
       show RdM.All _ (match fltsFrom .f64 o2.c with | some (m, g) => _ | none => _) _
       split
       · rename_i m2 gh hm2
         intro o3
         show RdM.All _ (match optOf o3.c with | some (k, m) => _ | none => _) _
         split
         · rename_i k m hm3
           intro ho
           replace ho : m0 = 2 * len ∧ m2 = 2 * hl ∧ k = 0 ∧ (len ≤ 1000000 ∧ (ppBig len true = true → ppOk g len)) ∧ (hl ≤ 1000000 ∧ (ppBig hl true = true → ppOk gh hl)) := ho
           obtain ⟨hsz0, hsz2, ho⟩ := ho
           subst hsz0
           subst hsz2
           refine ⟨?_, _, _, (vc_newPoly1 len hl m k q g gh).mpr ?_⟩
           · refine okFlag_mk rfl ⟨?_, ⟨trivial, (contR_flts hm0).1, ⟨trivial, holOf_spec hm1 (by simp [sgSig, fsts, nth, sameN_self]), ⟨trivial, (contR_flts hm2).1, ⟨trivial, optOf_spec hm3, trivial⟩⟩⟩⟩⟩
             simp [eqvRL, eqvR, sgSig, fsts, nth, sameN_self]
           · obtain ⟨hk, ⟨h1, h2⟩, h3, h4⟩ := ho
             simp [hk, h1, h3]
             exact ⟨h2, h4⟩
         · trivial
       · trivial
     · trivial
   · trivial
 · trivial
def po0 : Cont → Option Nm
 | .cells [.ifc 157 (.ptr s 0), .nils] => some s
 | _ => none
theorem po0_spec {σ : Sig} {c : Cont} {p q : Nm} (h : po0 c = some p) (hs : sameN (σ q) p) : contR σ c (.cells [.ifc 157 (.ptr q 0), .nils]) := by
 unfold po0 at h
 split at h
 · simp only [Option.some.injEq] at h
   subst h
   show eqvRL σ _ _
   simp [eqvRL, eqvR, hs]
 · cases h
def ppL79 (len : Nat) (g : Nat → Int) : Fam := ⟨Nat, fun i =>
 ⟨22, [(3, .slcc 1 i), (6, .slcc 0 len), (7, .int .i64 len), (8, .int .i64 i)], [(0, ⟨false, 28, .ints .i64 (2 * len) g, 0⟩), (1, ⟨true, 23, .ints .i64 (2 * i) g, 2⟩)], 2⟩, fun i => i ≤ len, fun i => len - i⟩
noncomputable def polyPtsC : List SV → RdM
 | [.slcc n len] => .read n fun o0 => (match intsFrom .i64 o0.c with
   | some (m0, g) => .ret ⟨[.slcc 0 len], [(0, ⟨false, 28, .ints .i64 m0 g, 0⟩)], .slcc 1 len, [], [(1, ⟨true, 23, .ints .i64 (2 * len) g, 2⟩)], some (m0 = 2 * len ∧ len ≤ 1000000)⟩
   | none => .fail)
 | _ => .fail
theorem vc_polyPts (len : Nat)  (g : Nat → Int) : runA G0 1 [(3, ppL79 len g)] [] (codeOf Tryz.f79) (init Tryz.f79.ntmps [.slcc 0 len] [(0, ⟨false, 28, .ints .i64 (2 * len) g, 0⟩)] 1) (endK G0.E.T Tryz.f79.results.toList fun S v => postP 1 ⟨[.slcc 0 len], [(0, ⟨false, 28, .ints .i64 (2 * len) g, 0⟩)], .slcc 1 len, [], [(1, ⟨true, 23, .ints .i64 (2 * len) g, 2⟩)], some (2 * len = 2 * len ∧ len ≤ 1000000)⟩ S v) = (
(∃ (i : Nat), i ≤ len ∧ (i = 0 ∧ (True ∧ len = len) ∧ (↑len : Int) = (↑len : Int) ∧ 0 = (↑i : Int) ∧ True) ∧ True ∧ (2 * len ≤ 2 * len ∧ ∀ (i : Nat), i < 2 * len → g i = g i) ∧ True ∧ 2 * i = 0
∧ True) ∧ ∀ (i : Nat), i ≤ len → (decide ((↑i : Int) < (↑len : Int)) = true → ((0 ≤ (↑i : Int) ∧ (↑i : Int) < (↑len : Int)) ∧ 1 ≤ 2 * len) ∧ 0 + Int.toNat (↑i : Int) * 2 + 2 ≤ 2 * len ∧ (2 * i = i * 2 ∧ (i + 1) * 16 ≤ 140737488355328 ∧ i + 1 ≤ 9223372036854775807) ∧ ∃ (i' : Nat), i' ≤ len ∧ len - i' < len - i ∧ ((True ∧ i + 1 = i') ∧ (True ∧ len = len) ∧ (↑len : Int) = (↑len
: Int) ∧ Go.IntKind.wrap .i64 ((↑i : Int) + 1) = (↑i' : Int) ∧ True) ∧ True ∧ (2 * len ≤ 2 * len ∧ ∀ (i : Nat), i < 2 * len → g i = g i) ∧ True ∧ (23 = 23 ∧ 2 = 2 ∧ 2 * i' ≤ 2 * i + List.length [g (0 + Int.toNat (↑i : Int) * 2), g (0 + Int.toNat (↑i : Int) * 2 + 1)] ∧ ∀ (i_1 : Nat), i_1 < 2 * i' → more (2 * i) g [g (0 + Int.toNat (↑i : Int) * 2), g (0 + Int.toNat (↑i : Int) * 2 + 1)] (0 : Int) i_1 = g i_1) ∧ True) ∧ (decide ((↑i : Int) < (↑len : Int)) = false → (True ∧ i = len) ∧ True ∧ (23 = 23 ∧ 2 = 2 ∧ 2 * len ≤ 2 * i ∧ ∀ (i : Nat), i < 2 * len → g i = g i) ∧ True)) := by kernel_rfl
theorem polyPts : ConOk Tryz.prog 79 (conR polyPtsC) := by
 refine con_of_vc g0 Tryz.func79 rfl (by kernel_rfl) fun args => ?_
 unfold polyPtsC
 split
 · rename_i n len
   intro o0
   show RdM.All _ (match intsFrom .i64 o0.c with | some (m, g) => _ | none => _) _
   split
   · rename_i m0 g hm0
     intro ho
     replace ho : m0 = 2 * len ∧ len ≤ 1000000 := ho
     obtain ⟨hsz0, ho⟩ := ho
     subst hsz0
     refine ⟨?_, _, _, (vc_polyPts len g).mpr ?_⟩
     · refine okFlag_mk rfl ⟨?_, ⟨trivial, (contR_ints hm0).1, trivial⟩⟩
       simp [eqvRL, eqvR, sgSig, fsts, nth, sameN_self]
     · refine ⟨⟨0, by simp⟩, fun i hi => ⟨fun h => ?_, fun h => ?_⟩⟩
       · have h := of_decide_eq_true h
         have e : 0 + (i : Int).toNat * 2 = 2 * i := by omega
         refine ⟨by omega, by omega, by omega, i + 1, by omega, by omega, ⟨⟨trivial, rfl⟩, ⟨trivial, rfl⟩, rfl, ?_, trivial⟩, trivial, ⟨Nat.le_refl _, fun _ _ => rfl⟩, trivial, ⟨rfl, rfl, ?_, ?_⟩, trivial⟩
         · rw [wrap64 (by omega) (by omega)]; omega
         · show 2 * (i + 1) ≤ 2 * i + 2
           omega
         · exact more_two (by rw [e]) (by rw [e])
       · have h := of_decide_eq_false h
         have : i = len := by omega
         subst this
         exact ⟨⟨trivial, rfl⟩, trivial, ⟨rfl, rfl, Nat.le_refl _, fun _ _ => rfl⟩, trivial⟩
   · trivial
 · trivial
noncomputable def GPS1 : Ctx := ⟨⟨tys, []⟩, [(79, conR polyPtsC)]⟩
theorem gPS1 : CtxOk Tryz.prog GPS1 := ⟨⟨tysOk, FlatsOk.nil⟩, GamOk.cons polyPts GamOk.nil, by kernel_rfl⟩
noncomputable def polyLnC : List SV → RdM
 | [.slcc n len] => .read n fun o0 => (match intsFrom .i64 o0.c with
   | some (m0, g) => .ret ⟨[.slcc 0 len], [(0, ⟨false, 28, .ints .i64 m0 g, 0⟩)], .agg [.int .i64 2, .slcc 1 len, .nils], [], [(1, ⟨true, 23, .ints .i64 (2 * len) g, 2⟩)], some (m0 = 2 * len ∧ len ≤ 1000000)⟩
   | none => .fail)
 | _ => .fail
theorem vc_polyLn (len : Nat)  (g : Nat → Int) : runA GPS1 1 [] [] (codeOf Tryz.f51) (init Tryz.f51.ntmps [.slcc 0 len] [(0, ⟨false, 28, .ints .i64 (2 * len) g, 0⟩)] 1) (endK GPS1.E.T Tryz.f51.results.toList fun S v => postP 1 ⟨[.slcc 0 len], [(0, ⟨false, 28, .ints .i64 (2 * len) g, 0⟩)], .agg [.int .i64 2, .slcc 1 len, .nils], [], [(1, ⟨true, 23, .ints .i64 (2 * len) g, 2⟩)], some (2 * len = 2 * len ∧ len ≤ 1000000)⟩ S v) = (
(2 * len = 2 * len ∧ len ≤ 1000000) ∧ ((2 : Int) = 2 ∧ (True ∧ len = len) ∧ True ∧ True) ∧ True ∧ (23 = 23 ∧ 2 = 2 ∧ 2 * len ≤ 2 * len ∧ ∀ (i : Nat), i < 2 * len
→ g i = g i) ∧ True) := by kernel_rfl
theorem polyLn : ConOk Tryz.prog 51 (conR polyLnC) := by
 refine con_of_vc gPS1 Tryz.func51 rfl (by kernel_rfl) fun args => ?_
 unfold polyLnC
 split
 · rename_i n len
   intro o0
   show RdM.All _ (match intsFrom .i64 o0.c with | some (m, g) => _ | none => _) _
   split
   · rename_i m0 g hm0
     intro ho
     replace ho : m0 = 2 * len ∧ len ≤ 1000000 := ho
     obtain ⟨hsz0, ho⟩ := ho
     subst hsz0
     refine ⟨?_, _, _, (vc_polyLn len g).mpr ?_⟩
     · refine okFlag_mk rfl ⟨?_, ⟨trivial, (contR_ints hm0).1, trivial⟩⟩
       simp [eqvRL, eqvR, sgSig, fsts, nth, sameN_self]
     · simp [ho]
   · trivial
 · trivial
def npIs0 : List SV → Bool
 | [_, .nils, _] => true
 | _ => false
noncomputable def GSP : Ctx := ⟨⟨tys, []⟩, [(74, conR ptsC), (91, swC npIs0 (conR newPoly0C) (conR newPoly1C))]⟩
theorem gSP : CtxOk Tryz.prog GSP := ⟨⟨tysOk, FlatsOk.nil⟩, GamOk.cons pts (GamOk.cons (ConOk.sw newPoly0 newPoly1) GamOk.nil), by kernel_rfl⟩
def sp9 (len : Nat) (g : Nat → Int) (km : Int × Int) : Fam := ⟨Nat, fun _ =>
 ⟨53, [(1, .ptr 1 0), (2, .ptr 2 0), (5, .nils), (30, .nils), (31, .int .i64 0), (32, .int .i64 0)], [(0, ⟨false, 23, .ints .i64 (2 * len) g, 0⟩), (1, ⟨false, 148, optC km.1 km.2, 0⟩), (2, ⟨true, 39, .cells [.int .i64 3, .slcc 0 len, .nils], 0⟩)], 3⟩, fun _ => True, fun _ => 0⟩
noncomputable def shaped30C : List SV → RdM
 | [.agg [.int .i64 3, .slcc n len, .nils], .ptr o 0] => .read n fun o0 => (match intsFrom .i64 o0.c with
   | some (m0, g) => .read o fun o1 => (match optOf o1.c with
   | some (km, mm) => .ret ⟨[.agg [.int .i64 3, .slcc 0 len, .nils], .ptr 1 0], [(0, ⟨false, 23, .ints .i64 m0 g, 0⟩), (1, ⟨false, 148, optC km mm, 0⟩)], .ifc 121 (.ptr 2 0), [], [(2, ⟨true, 137, .cells [.ifc 157 (.ptr 3 0), .nils], 0⟩), (3, ⟨true, 150, .cells (rectS len true (fI g) 4 0), 0⟩), (4, ⟨true, 100, .flts .f64 (2 * len) (fI g), 2⟩)], some (m0 = 2 * len ∧ km = 0 ∧ len ≤ 1000000 ∧ (ppBig len true = true → ppOk (fI g) len))⟩
   | none => .fail)
   | none => .fail)
 | _ => .fail
theorem vc_shaped30 (len : Nat) (km mm : Int)  (g : Nat → Int) : runA GSP 2 [(9, .unr [sp9 len g (km, mm)])] [] (codeOf Tryz.f63) (init Tryz.f63.ntmps [.agg [.int .i64 3, .slcc 0 len, .nils], .ptr 1 0] [(0, ⟨false, 23, .ints .i64 (2 * len) g, 0⟩), (1, ⟨false, 148, optC km mm, 0⟩)] 2) (endK GSP.E.T Tryz.f63.results.toList fun S v => postP 2 ⟨[.agg [.int .i64 3, .slcc 0 len, .nils], .ptr 1 0], [(0, ⟨false, 23, .ints .i64 (2 * len) g, 0⟩), (1, ⟨false, 148, optC km mm, 0⟩)], .ifc 121 (.ptr 2 0), [], [(2, ⟨true, 137, .cells [.ifc 157 (.ptr 3 0), .nils], 0⟩), (3, ⟨true, 150, .cells (rectS len true (fI g) 4 0), 0⟩), (4, ⟨true, 100, .flts .f64 (2 * len) (fI g), 2⟩)], some (2 * len = 2 * len ∧ km = 0 ∧ len ≤ 1000000 ∧ (ppBig len true = true → ppOk (fI g) len))⟩ S v) = (
(false = true → False) ∧ (false = false → (false = true → (2 * len = 2 * len ∧ len ≤ 1000000) ∧ False) ∧ (false = false → (true = true → (∃ (_ : Nat), True ∧ ((True ∧ 0 = 0) ∧ (True ∧ 0 = 0) ∧
 True ∧ True ∧ (0 : Int) = 0 ∧ (0 : Int) = 0 ∧ True) ∧ True ∧ (2 * len ≤ 2 * len ∧ ∀ (i : Nat), i < 2 * len → g i = g i) ∧ True ∧ (km = km ∧ mm = mm ∧ True) ∧ True ∧ (39 = 39 ∧ 0 = 0 ∧ (3 : Int) = 3 ∧ (True ∧ len = len) ∧ True ∧ True) ∧ True) ∧ (∀ (_ : Nat), True → (false = true → False) ∧ (false = false → (2 * len = 2 * len ∧ len ≤ 1000000) ∧ (2 * len = 2 * len ∧ km = (0 :
 Int) ∧ len ≤ 1000000 ∧ (ppBig len true = true → ppOk (fI g) len)) ∧ (True ∧ 0 = 0) ∧ True ∧ (137 = 137 ∧ 0 = 0 ∧ (True ∧ 0 = 0) ∧ True ∧ True) ∧ True ∧ (150 = 150 ∧ 0 = 0 ∧ true = true ∧ (ppBig len true && fGt .f64 (cwF (fI g) len len) 0) = (ppBig len
 true && fGt .f64 (cwF (fI g) len len) 0) ∧ (ppBig len true && !(dcF (fI g) len len).2) = (ppBig len true && !Prod.snd
(dcF (fI g) len len)) ∧ (0 : Int) = 0 ∧ True ∧ pick (ppBig len true) (rlo (fI g) 0 len) = pick
(ppBig len true) (rlo (fI g) 0 len) ∧ pick (ppBig len true) (rlo (fI g) 1 len) = pick
(ppBig len true) (rlo (fI g) 1 len) ∧ pick (ppBig len true) (rhi (fI g) 0 len) = pick
(ppBig len true) (rhi (fI g) 0 len) ∧ pick (ppBig len true) (rhi (fI g) 1 len) = pick
(ppBig len true) (rhi (fI g) 1 len) ∧ (True ∧ len = len) ∧ True) ∧ True ∧ (100 = 100 ∧ 2 = 2 ∧ 2 * len ≤ 2 * len ∧ ∀ (i : Nat), i < 2 * len → fI g i = fI g i) ∧ True)) ∧ True) ∧ (true = false → False)))) := by kernel_rfl
theorem shaped30 : ConOk Tryz.prog 63 (conR shaped30C) := by
 refine con_of_vc gSP Tryz.func63 rfl (by kernel_rfl) fun args => ?_
 unfold shaped30C
 split
 · rename_i n len o
   intro o0
   show RdM.All _ (match intsFrom .i64 o0.c with | some (m, g) => _ | none => _) _
   split
   · rename_i m0 g hm0
     intro o1
     show RdM.All _ (match optOf o1.c with | some (km, mm) => _ | none => _) _
     split
     · rename_i km mm hm1
       intro ho
       replace ho : m0 = 2 * len ∧ km = 0 ∧ len ≤ 1000000 ∧ (ppBig len true = true → ppOk (fI g) len) := ho
       obtain ⟨hsz0, ho⟩ := ho
       subst hsz0
       refine ⟨?_, _, _, (vc_shaped30 len km mm g).mpr ?_⟩
       · refine okFlag_mk rfl ⟨?_, ⟨trivial, (contR_ints hm0).1, ⟨trivial, optOf_spec hm1, trivial⟩⟩⟩
         simp [eqvRL, eqvR, kEq_self, sgSig, fsts, nth, sameN_self]
       · obtain ⟨hk, hl, hok⟩ := ho
         simp [hk, hl]
         exact hok
     · trivial
   · trivial
 · trivial
theorem allB_all {p : Nat → Bool} : ∀ {m : Nat}, (∀ i, i < m → p i = true) → allB p m = true
 | 0, _ => rfl
 | m + 1, h => by
   show (allB p m && p m) = true
   rw [allB_all (fun i hi => h i (by omega)), h m (by omega)]; rfl
end Go.Proofs.Tryz.Sx
