/- Parts of a proof, in order: what each says stands at its head. No conditions. -/
import Derived.ProofKit
import Derived.Lib.SmallJoins
import Derived.Deep.Slices
import Derived.Test.YtfhkmkhcofodmaaGreatM8
import Derived.Test.YtfhkmkhcofodmaaGreatM3
import Derived.Test.YtfhkmkhcofodmaaGreatM4
namespace Go.Proofs.Tryz.Sx
open Go Go.Sx Go.Proofs Go.Fl Go.Geo
set_option maxRecDepth 100000
def pe5 (len : Nat) (g : Nat → Int) : Fam := ⟨Nat, fun i =>
 ⟨49, [(0, .slcc 0 len), (3, .slcc 1 i), (11, .int .i64 ((len : Int) - 1)), (12, .int .i64 i)], [(0, ⟨false, 28, .ints .i64 (2 * len) g, 0⟩), (1, ⟨true, 29, .ints .i64 (4 * i) (segI g len), 4⟩)], 2⟩, fun i => i + 1 ≤ len ∧ 3 ≤ len, fun i => len - i⟩
noncomputable def polyEdC : List SV → RdM
 | [.slcc n len] => .read n fun o0 => (match intsFrom .i64 o0.c with
   | some (m0, g) => .ret ⟨[.slcc 0 len], [(0, ⟨false, 28, .ints .i64 m0 g, 0⟩)], .slcc 1 (nsegs len true g), [], [(1, ⟨true, 29, .ints .i64 (4 * nsegs len true g) (segI g len), 4⟩)], some (m0 = 2 * len ∧ len ≤ 1000000)⟩
   | none => .fail)
 | _ => .fail
theorem vc_polyEd (len : Nat)  (g : Nat → Int) : runA GS 1 [(5, pe5 len g)] [] (codeOf Tryz.f86) (init Tryz.f86.ntmps [.slcc 0 len] [(0, ⟨false, 28, .ints .i64 (2 * len) g, 0⟩)] 1) (endK GS.E.T Tryz.f86.results.toList fun S v => postP 1 ⟨[.slcc 0 len], [(0, ⟨false, 28, .ints .i64 (2 * len) g, 0⟩)], .slcc 1 (nsegs len true g), [], [(1, ⟨true, 29, .ints .i64 (4 * nsegs len true g) (segI g len), 4⟩)], some (2 * len = 2 * len ∧ len ≤ 1000000)⟩ S v) = (
(decide ((↑len : Int) < 3) = true → nsegs len true g = 0 ∧ True ∧ 4 * nsegs len true g = 0 ∧ True) ∧ (decide ((↑len : Int) < 3) = false → (∃ (i : Nat), (i + 1 ≤ len ∧
3 ≤ len) ∧ ((True ∧ len = len) ∧ i = 0 ∧ Go.IntKind.wrap .i64 ((↑len : Int) - 1) = (↑len : Int) - 1 ∧ 0 = (↑i : Int) ∧ True) ∧ True ∧ (2 * len ≤ 2 * len ∧ ∀ (i : Nat), i < 2 * len → g i
= g i) ∧ True ∧ 4 * i = 0 ∧ True) ∧ ∀ (i : Nat), i + 1 ≤ len ∧ 3 ≤ len → (decide ((↑i : Int) < (↑len : Int) - 1) = true → ((0 ≤ (↑i : Int) ∧ (↑i : Int) < (↑len : Int)) ∧ 1 ≤ 2 * len) ∧
0 + Int.toNat (↑i : Int) * 2 + 2 ≤ 2 * len ∧ (((0 : Int) ≤ Go.IntKind.wrap .i64 ((↑i : Int) + 1) ∧ Go.IntKind.wrap .i64 ((↑i : Int) + 1) < (↑len : Int)) ∧ 1 ≤ 2 * len) ∧ 0 +
 Int.toNat (Go.IntKind.wrap .i64 ((↑i : Int) + 1)) * 2 + 2 ≤ 2 * len ∧ (4 * i = i * 4 ∧ (i + 1) * 32 ≤ 140737488355328 ∧ i + 1 ≤ 9223372036854775807) ∧ true = true
∧ ∃ (i' : Nat), (i' + 1 ≤ len ∧ 3 ≤ len) ∧ len - i' < len - i ∧ ((True ∧ len = len) ∧ (True ∧ i + 1 = i') ∧ (↑len : Int) - 1 = (↑len : Int) - 1 ∧ Go.IntKind.wrap .i64 ((↑i : Int) + 1) = (↑i' : Int) ∧
 True) ∧ True ∧ (2 * len ≤ 2 * len ∧ ∀ (i : Nat), i < 2 * len → g i = g i) ∧ True ∧ (29 = 29 ∧ 4 = 4 ∧ 4 * i' ≤ 4 * i + List.length [g (0 + Int.toNat (↑i : Int) * 2), g (0 + Int.toNat (↑i : Int) * 2 + 1), g (0 + Int.toNat (Go.IntKind.wrap .i64 ((↑i : Int) + 1)) * 2), g (0 + Int.toNat (Go.IntKind.wrap .i64 ((↑i : Int) + 1)) * 2 + 1)] ∧ ∀ (i_1 : Nat), i_1 < 4 * i' → more (4 * i) (segI g len) [g (0 + Int.toNat (↑i : Int) * 2), g (0 + Int.toNat (↑i : Int) * 2 + 1), g (0 + Int.toNat
(Go.IntKind.wrap .i64 ((↑i : Int) + 1)) * 2), g (0 + Int.toNat (Go.IntKind.wrap .i64 ((↑i : Int) + 1)) * 2 + 1)] (0 : Int) i_1 = segI g len i_1) ∧ True) ∧ (decide ((↑i : Int) < (↑len :
 Int) - (1 : Int)) = false → (((0 : Int) ≤ Go.IntKind.wrap .i64 ((↑len : Int) - 1) ∧ Go.IntKind.wrap .i64 ((↑len : Int) - 1) < (↑len : Int)) ∧ 1 ≤ 2 * len) ∧ 0 + Int.toNat (Go.IntKind.wrap .i64 ((↑len : Int) -
(1 : Int))) * 2 + 2 ≤ 2 * len ∧ (((0 : Int) ≤ 0 ∧ 0 < (↑len : Int)) ∧ 1 ≤ 2 * len) ∧ 2 ≤ 2 * len ∧ true = true ∧ ((!(g (0 + Int.toNat (Go.IntKind.wrap .i64 ((↑len : Int)
- (1 : Int))) * 2) == g 0 && (g (0 + Int.toNat (Go.IntKind.wrap .i64 ((↑len : Int) - 1)) * 2 + 1) == g 1 && true))) = true → (((0 : Int) ≤ 0 ∧ 0 < (↑len : Int)) ∧ 1 ≤ 2 * len) ∧ 2 ≤ 2 * len ∧ (4 * i = i * 4 ∧ (i + 1) * 32 ≤ 140737488355328 ∧ i + 1 ≤ 9223372036854775807) ∧ true = true ∧ (True ∧ i + 1 = nsegs len
 true g) ∧ True ∧ (29 = 29 ∧ 4 = 4 ∧ 4 * nsegs len true g ≤ 4 * i + List.length [g (0 + Int.toNat (Go.IntKind.wrap .i64 ((↑len : Int) - 1)) * 2), g (0 +
 Int.toNat (Go.IntKind.wrap .i64 ((↑len : Int) - 1)) * 2 + 1), g 0, g 1] ∧ ∀ (i_1 : Nat), i_1 < 4 * nsegs len true g → more (4 * i) (segI g len) [g (0 + Int.toNat (Go.IntKind.wrap .i64 ((↑len : Int) - 1)) * 2), g (0 + Int.toNat (Go.IntKind.wrap .i64 ((↑len : Int) - 1)) * 2 + 1), g 0, g 1] (0 : Int) i_1 = segI g
 len i_1) ∧ True) ∧ ((!(g (0 + Int.toNat (Go.IntKind.wrap .i64 ((↑len : Int) - 1)) * 2) == g 0 && (g (0 + Int.toNat (Go.IntKind.wrap .i64 ((↑len : Int) - 1)) * 2 + 1) == g 1 &&
 true))) = false → (True ∧ i = nsegs len true g) ∧ True ∧ (29 = 29 ∧ 4 = 4 ∧ 4 * nsegs len true g ≤ 4 * i ∧ ∀ (i : Nat), i < 4 * nsegs len
 true g → segI g len i = segI g len i) ∧ True)))) := by kernel_rfl
theorem polyEd : ConOk Tryz.prog 86 (conR polyEdC) := by
 refine con_of_vc gS Tryz.func86 rfl (by kernel_rfl) fun args => ?_
 unfold polyEdC
 split
 · rename_i n len
   intro o0
   show RdM.All _ (match intsFrom .i64 o0.c with | some (m, g) => _ | none => _) _
   split
   · rename_i m0 g hm0
     intro ho
     replace ho : m0 = 2 * len ∧ len ≤ 1000000 := ho
     obtain ⟨hsz0, ho⟩ := ho
     subst hsz0
     refine ⟨?_, _, _, (vc_polyEd len g).mpr ?_⟩
     · refine okFlag_mk rfl ⟨?_, ⟨trivial, (contR_ints hm0).1, trivial⟩⟩
       simp [eqvRL, eqvR, sgSig, fsts, nth, sameN_self]
     · have hwl : IntKind.i64.wrap ((len : Int) - 1) = (len : Int) - 1 := wrap64 (by omega) (by omega)
       simp only [true_and, and_true, eq_self, Nat.le_refl, implies_true, hwl]
       refine ⟨fun h => ?_, fun h => ⟨⟨0, ?_, ⟨⟨rfl, rfl⟩, rfl⟩⟩, fun i hi => ⟨fun h => ?_, fun h => ?_⟩⟩⟩
       · have h := of_decide_eq_true h
         have : nsegs len true g = 0 := if_pos (.inr ⟨rfl, by omega⟩)
         simp [this]
       · have h := of_decide_eq_false h
         exact ⟨by omega, by omega⟩
       · have h := of_decide_eq_true h
         have e : 0 + (i : Int).toNat * 2 = 2 * i := by omega
         have hw : IntKind.i64.wrap ((i : Int) + 1) = ((i + 1 : Nat) : Int) := by rw [wrap64 (by omega) (by omega)]; omega
         have e1 : 0 + ((i + 1 : Nat) : Int).toNat * 2 = 2 * i + 2 := by omega
         obtain ⟨s0, s1, s2, s3⟩ := segI_lo (g := g) (len := len) (i := i) (by omega)
         rw [hw, e, e1]
         refine ⟨⟨⟨by omega, by omega⟩, by omega⟩, by omega, ⟨⟨by omega, by omega⟩, by omega⟩, by omega, ?_, i + 1, ⟨by omega, by omega⟩, by omega, ⟨rfl, rfl⟩, ?_, more_four s0.symm s1.symm s2.symm s3.symm⟩
         · exact ⟨by omega, by omega, by omega⟩
         · show 4 * (i + 1) ≤ 4 * i + 4
           omega
       · have h := of_decide_eq_false h
         have hil : i = len - 1 := by omega
         subst hil
         have e : 0 + ((len : Int) - 1).toNat * 2 = 2 * len - 2 := by omega
         rw [e]
         have hn2 : ¬ (len < 2 ∨ true = true ∧ len < 3) := by
           intro hh
           rcases hh with hh | ⟨hh, hh'⟩ <;> omega
         have e1 : 2 * len - 2 + 1 = 2 * len - 1 := by omega
         rw [e1]
         refine ⟨⟨⟨by omega, by omega⟩, by omega⟩, by omega, ⟨⟨by omega, by omega⟩, by omega⟩, by omega, fun hne => ?_, fun heq => ?_⟩
         · have hns : nsegs len true g = len := by
             unfold nsegs
             rw [if_neg hn2, if_pos ⟨rfl, fun hh => by simp [hh.1, hh.2] at hne⟩]
           obtain ⟨s0, s1, s2, s3⟩ := segI_hi (g := g) (len := len) (i := len - 1) (by omega)
           have e2 : 2 * (len - 1) = 2 * len - 2 := by omega
           rw [e2] at s0 s1
           rw [e1] at s1
           rw [hns]
           refine ⟨⟨⟨by omega, by omega⟩, by omega⟩, by omega, ⟨by omega, by omega, by omega⟩, by omega, ?_, ?_⟩
           · show 4 * len ≤ 4 * (len - 1) + 4
             omega
           · have := more_four s0.symm s1.symm s2.symm s3.symm
             rw [show len - 1 + 1 = len by omega] at this
             exact this
         · have hns : nsegs len true g = len - 1 := by
             unfold nsegs
             rw [if_neg hn2, if_neg]
             simp at heq
             exact fun hh => hh.2 ⟨heq.1, heq.2⟩
           rw [hns]
           simp
   · trivial
 · trivial
def upZ (a b c d : Int) : Bool := decide (b < d ∨ b = d ∧ a < c)
def polyUpF : PF := fun
 | [.agg [.int .i64 a, .int .i64 b, .int .i64 c, .int .i64 d]] => some (.bool (upZ a b c d), none)
 | _ => none
theorem vc_polyUp (R : SV → Prop) (a b c d : Int) : runA G0 0 [] [] (codeOf Tryz.f88) (init Tryz.f88.ntmps [.agg [.int .i64 a, .int .i64 b, .int .i64 c, .int .i64 d]] [] 0) (endK G0.E.T Tryz.f88.results.toList fun _ v => R v) = (
(((0 : Int) ≤ 1 ∧ (1 : Int) < 2) ∧ True) ∧ (((0 : Int) ≤ 0 ∧ (0 : Int) < 2) ∧ True) ∧ (decide (b < d) = true → R SV.tt) ∧ (decide (b < d) = false → (((0 : Int) ≤ 1 ∧ (1 : Int) < 2) ∧ True) ∧ (((0 : Int)
≤ (0 : Int) ∧ (0 : Int) < 2) ∧ True) ∧ ((d == b) = true → (((0 : Int) ≤ 1 ∧ (1 : Int) < 2) ∧ True) ∧ (((0 : Int) ≤ 0 ∧ (0 : Int) < 2) ∧ True) ∧ R (SV.bool (decide (a < c)))) ∧ ((d == b) = false → R SV.ff))) := by kernel_rfl
theorem polyUp : PureOk Tryz.prog 88 polyUpF := by
 refine pure_of_vc g0 Tryz.func88 rfl (by kernel_rfl) ?_
 intro args v p h hp
 unfold polyUpF at h
 split at h
 · rename_i a b c d
   injection h with h; injection h with h1 h2; subst h1; subst h2
   clear hp
   refine ⟨rfl, _, _, (vc_polyUp _ a b c d).mpr ?_⟩
   simp only [eqv, upZ]
   grind
 · cases h
def eZ (g : Nat → Int) (len k i : Nat) : Int := segI g len (4 * i + k)
def onZ (g : Nat → Int) (len : Nat) (px py : Int) (i : Nat) : Bool := decide (On (eZ g len 0 i) (eZ g len 1 i) (eZ g len 2 i) (eZ g len 3 i) px py)
def lfZ (g : Nat → Int) (len : Nat) (px py : Int) (i : Nat) : Bool := decide (Lft (eZ g len 0 i) (eZ g len 1 i) (eZ g len 2 i) (eZ g len 3 i) px py)
def rsR (on lf : Nat → Bool) : Nat → Bool × Bool
 | 0 => (false, false)
 | i + 1 => if (rsR on lf i).1 = true then rsR on lf i else if on i = true then (true, (rsR on lf i).2) else (false, (rsR on lf i).2 != lf i)
theorem rsR_stop {on lf : Nat → Bool} {i : Nat} (h : (rsR on lf i).1 = true) : ∀ m, i ≤ m → rsR on lf m = rsR on lf i
 | 0, hm => by
   have : i = 0 := by omega
   subst this; rfl
 | m + 1, hm => by
   by_cases e : i = m + 1
   · subst e; rfl
   · have ih := rsR_stop h m (by omega)
     show (if (rsR on lf m).1 = true then rsR on lf m else _) = _
     rw [ih, if_pos h]
def rsV (r : Bool × Bool) : Int := if r.1 = true then 0 else if r.2 = true then 1 else -1
def rgS (g : Nat → Int) (len : Nat) (px py : Int) : Int := rsV (rsR (onZ g len px py) (lfZ g len px py) (nsegs len true g))
theorem nsegs_le (len : Nat) (b : Bool) (g : Nat → Int) : nsegs len b g ≤ len := by
 unfold nsegs
 split
 · omega
 · split <;> omega
theorem segI_in {g : Nat → Int} {len i k : Nat} (hi : i < len) (hk : k < 4) (h2 : 2 ≤ len) : ∃ j, j < 2 * len ∧ segI g len (4 * i + k) = g j := by
 have h1 : (4 * i + k) / 4 = i := by omega
 have h3 : (4 * i + k) % 4 = k := by omega
 unfold segI
 rw [h1, h3]
 split
 · exact ⟨2 * i + k, by omega, rfl⟩
 · split
   · exact ⟨2 * i + k, by omega, rfl⟩
   · exact ⟨k - 2, by omega, rfl⟩
theorem eZ_small {g : Nat → Int} {len : Nat} (hg : ∀ j, j < 2 * len → small (g j)) {k i : Nat} (hi : i < nsegs len true g) (hk : k < 4) : small (eZ g len k i) := by
 have h1 := nsegs_le len true g
 have h2 : 2 ≤ len := by
   rcases Nat.lt_or_ge len 2 with h | h
   · have : nsegs len true g = 0 := if_pos (.inl h)
     omega
   · exact h
 obtain ⟨j, hj, e⟩ := segI_in (g := g) (show i < len by omega) hk h2
 unfold eZ
 rw [e]
 exact hg j hj
noncomputable def GRS : Ctx := ⟨⟨tys, []⟩, [(86, conR polyEdC), (71, pureCon onF), (98, pureCon leftF)]⟩
theorem gRS : CtxOk Tryz.prog GRS := ⟨⟨tysOk, FlatsOk.nil⟩, GamOk.cons polyEd (GamOk.cons (.pure on) (GamOk.cons (.pure left) GamOk.nil)), by kernel_rfl⟩
def rs3 (len : Nat) (g : Nat → Int) (px py : Int) : Fam := ⟨Nat, fun i =>
 ⟨31, [(3, .ptr 1 0), (5, .bool (rsR (onZ g len px py) (lfZ g len px py) i).2), (9, .slcc 2 (nsegs len true g)), (10, .int .i64 (nsegs len true g)), (11, .int .i64 i)], [(1, ⟨true, 28, .cells [.int .i64 px, .int .i64 py], 0⟩), (2, ⟨true, 29, .ints .i64 (4 * nsegs len true g) (segI g len), 4⟩)], 3⟩, fun i => i ≤ nsegs len true g ∧ (rsR (onZ g len px py) (lfZ g len px py) i).1 = false, fun i => nsegs len true g - i⟩
noncomputable def ringSdC : List SV → RdM
 | [.slcc n len, .agg [.int .i64 px, .int .i64 py]] => .read n fun o0 => (match intsFrom .i64 o0.c with
   | some (m0, g) => .ret ⟨[.slcc 0 len, .agg [.int .i64 px, .int .i64 py]], [(0, ⟨false, 28, .ints .i64 m0 g, 0⟩)], .int .i64 (rgS g len px py), [], [], some (m0 = 2 * len ∧ len ≤ 1000000 ∧ (∀ j, j < 2 * len → small (g j)) ∧ small px ∧ small py)⟩
   | none => .fail)
 | _ => .fail
theorem vc_ringSd (len : Nat) (px py : Int)  (g : Nat → Int) : runA GRS 1 [(3, rs3 len g px py)] [] (codeOf Tryz.f89) (init Tryz.f89.ntmps [.slcc 0 len, .agg [.int .i64 px, .int .i64 py]] [(0, ⟨false, 28, .ints .i64 (2 * len) g, 0⟩)] 1) (endK GRS.E.T Tryz.f89.results.toList fun S v => postP 1 ⟨[.slcc 0 len, .agg [.int .i64 px, .int .i64 py]], [(0, ⟨false, 28, .ints .i64 (2 * len) g, 0⟩)], .int .i64 (rgS g len px py), [], [], some (2 * len = 2 * len ∧ len ≤ 1000000 ∧ (∀ j, j < 2 * len → small (g j)) ∧ small px ∧ small py)⟩ S v) = (
(2 * len = 2 * len ∧ len ≤ 1000000) ∧ (∃ (i : Nat), (i ≤ nsegs len true g ∧ (rsR (onZ g len px py) (lfZ g len px py) i).1 = false) ∧ ((True ∧ 0 = 0) ∧ (rsR (onZ g len px py) (lfZ g len px py) i).2 = false ∧ (True ∧ nsegs len true g = nsegs len true g) ∧ (↑(nsegs len
 true g) : Int) = (↑(nsegs len true g) : Int) ∧ 0 = (↑i : Int) ∧ True) ∧ True ∧ (28 = 28 ∧ 0 = 0 ∧ px = px ∧ py = py ∧ True) ∧ True ∧ (29 = 29 ∧ 4 = 4 ∧ 4 * nsegs len true g ≤ 4 * nsegs len true g ∧ ∀ (i : Nat), i < 4 * nsegs len true g → segI g len i = segI g len i) ∧ True) ∧ ∀ (i : Nat), i ≤
 nsegs len true g ∧ (rsR (onZ g len px py) (lfZ g len px py) i).1 = false → (decide ((↑i : Int) < (↑(nsegs len true g) : Int)) = true → ((0 ≤ (↑i
: Int) ∧ (↑i : Int) < (↑(nsegs len true g) : Int)) ∧ 1 ≤ 4 * nsegs len true g) ∧ 0 + Int.toNat (↑i : Int) * 4 + 4 ≤ 4 * nsegs len true g ∧ (((0 :
 Int) ≤ (0 : Int) ∧ (0 : Int) < 2) ∧ True) ∧ (((0 : Int) ≤ 1 ∧ (1 : Int) < 2) ∧ True) ∧ small6 (segI g len (0 + Int.toNat (↑i : Int) * 4)) (segI g len (0 + Int.toNat (↑i : Int) * 4 + 1)) (segI g len (0 + Int.toNat (↑i : Int) * 4 + 1 + 1)) (segI g len (0 + Int.toNat (↑i : Int) * 4 + 1 + 1 + 1)) px py ∧ (decide (Go.Geo.On (segI g len (0 + Int.toNat (↑i : Int) * 4)) (segI g len (0 + Int.toNat (↑i : Int) * 4 + 1)) (segI g len (0 + Int.toNat (↑i : Int) * 4 + 1 + 1)) (segI g len (0 + Int.toNat (↑i : Int) * 4 + 1 + 1 + 1)) px py) = true → (0 : Int) = rgS g len px py ∧ True)
∧ (decide (Go.Geo.On (segI g len (0 + Int.toNat (↑i : Int) * 4)) (segI g len (0 + Int.toNat (↑i : Int) * 4 + 1)) (segI g len (0 + Int.toNat (↑i :
 Int) * 4 + 1 + 1)) (segI g len (0 + Int.toNat (↑i : Int) * 4 + 1 + 1 + 1)) px py) = false → (((0 : Int) ≤ 0 ∧ (0 : Int) < 2) ∧ True) ∧ (((0 : Int) ≤ (1
: Int) ∧ (1 : Int) < 2) ∧ True) ∧ small6 (segI g len (0 + Int.toNat (↑i : Int) * 4)) (segI g len (0 + Int.toNat (↑i : Int) * 4 + 1))
(segI g len (0 + Int.toNat (↑i : Int) * 4 + 1 + 1)) (segI g len (0 + Int.toNat (↑i : Int) * 4 + 1 + 1 + 1)) px py ∧ ∃ (i' : Nat), (i' ≤
 nsegs len true g ∧ (rsR (onZ g len px py) (lfZ g len px py) i').1 = false) ∧ nsegs len true g - i' < nsegs len true g - i ∧ ((True ∧ 0 = 0) ∧ (!(rsR (onZ g len px py) (lfZ g len px py) i).2 == decide (Go.Geo.Lft (segI g len (0 + Int.toNat (↑i : Int) * 4))
(segI g len (0 + Int.toNat (↑i : Int) * 4 + 1)) (segI g len (0 + Int.toNat (↑i : Int) * 4 + 1 + 1)) (segI g len (0 + Int.toNat (↑i :
 Int) * 4 + 1 + 1 + 1)) px py)) = (rsR (onZ g len px py) (lfZ g len px py) i').2 ∧ (True ∧ nsegs len true g = nsegs len
 true g) ∧ (↑(nsegs len true g) : Int) = (↑(nsegs len true g) : Int) ∧ Go.IntKind.wrap .i64 ((↑i : Int) + 1) = (↑i' : Int) ∧ True) ∧ True ∧ (28 = 28 ∧ 0 = 0 ∧ px = px ∧ py =
 py ∧ True) ∧ True ∧ (29 = 29 ∧ 4 = 4 ∧ 4 * nsegs len true g ≤ 4 * nsegs len true g ∧ ∀ (i : Nat), i < 4 * nsegs len true g →
 segI g len i = segI g len i) ∧ True)) ∧ (decide ((↑i : Int) < (↑(nsegs len true g) : Int)) = false → ((rsR (onZ g len px py) (lfZ g
 len px py) i).2 = true → (1 : Int) = rgS g len px py ∧ True) ∧ ((rsR (onZ g len px py) (lfZ g len px py) i).2 = false → (-1 : Int) = rgS g len px py ∧
 True))) := by kernel_rfl
theorem ringSd : ConOk Tryz.prog 89 (conR ringSdC) := by
 refine con_of_vc gRS Tryz.func89 rfl (by kernel_rfl) fun args => ?_
 unfold ringSdC
 split
 · rename_i n len px py
   intro o0
   show RdM.All _ (match intsFrom .i64 o0.c with | some (m, g) => _ | none => _) _
   split
   · rename_i m0 g hm0
     intro ho
     replace ho : m0 = 2 * len ∧ len ≤ 1000000 ∧ (∀ j, j < 2 * len → small (g j)) ∧ small px ∧ small py := ho
     obtain ⟨hsz0, ho⟩ := ho
     subst hsz0
     refine ⟨?_, _, _, (vc_ringSd len px py g).mpr ?_⟩
     · refine okFlag_mk rfl ⟨?_, ⟨trivial, (contR_ints hm0).1, trivial⟩⟩
       simp [eqvRL, eqvR, kEq_self, sgSig, fsts, nth, sameN_self]
     · obtain ⟨hl, hg, hx, hy⟩ := ho
       have hE := nsegs_le len true g
       have hsm := fun (k i : Nat) (hi : i < nsegs len true g) (hk : k < 4) => eZ_small hg hi hk
       have hv : ∀ i, (∀ m, i ≤ m → rsR (onZ g len px py) (lfZ g len px py) m = rsR (onZ g len px py) (lfZ g len px py) i) → i ≤ nsegs len true g → rgS g len px py = rsV (rsR (onZ g len px py) (lfZ g len px py) i) := fun i h hi => by unfold rgS; rw [h _ hi]
       have hend : rgS g len px py = rsV (rsR (onZ g len px py) (lfZ g len px py) (nsegs len true g)) := rfl
       generalize nsegs len true g = E at *
       simp only [true_and, and_true, eq_self, Nat.le_refl, implies_true, Int.toNat_natCast]
       refine ⟨hl, ⟨0, ⟨by omega, rfl⟩, rfl, rfl⟩, fun i hi => ⟨fun h => ?_, fun h => ⟨fun q => ?_, fun q => ?_⟩⟩⟩
       · have h := of_decide_eq_true h
         have hiE : i < E := by omega
         have hw : IntKind.i64.wrap ((i : Int) + 1) = ((i + 1 : Nat) : Int) := by rw [wrap64 (by omega) (by omega)]; omega
         have e0 : segI g len (0 + i * 4) = eZ g len 0 i := by unfold eZ; congr 1; omega
         have e1 : segI g len (0 + i * 4 + 1) = eZ g len 1 i := by unfold eZ; congr 1; omega
         have e2 : segI g len (0 + i * 4 + 1 + 1) = eZ g len 2 i := by unfold eZ; congr 1; omega
         have e3 : segI g len (0 + i * 4 + 1 + 1 + 1) = eZ g len 3 i := by unfold eZ; congr 1; omega
         have s6 : small6 (eZ g len 0 i) (eZ g len 1 i) (eZ g len 2 i) (eZ g len 3 i) px py := ⟨⟨hsm 0 i hiE (by decide), hsm 1 i hiE (by decide)⟩, ⟨hsm 2 i hiE (by decide), hsm 3 i hiE (by decide)⟩, hx, hy⟩
         have f1 : decide (On (eZ g len 0 i) (eZ g len 1 i) (eZ g len 2 i) (eZ g len 3 i) px py) = onZ g len px py i := rfl
         have f2 : decide (Lft (eZ g len 0 i) (eZ g len 1 i) (eZ g len 2 i) (eZ g len 3 i) px py) = lfZ g len px py i := rfl
         have step : rsR (onZ g len px py) (lfZ g len px py) (i + 1) = if (rsR (onZ g len px py) (lfZ g len px py) i).1 = true then rsR (onZ g len px py) (lfZ g len px py) i else if onZ g len px py i = true then (true, (rsR (onZ g len px py) (lfZ g len px py) i).2) else (false, (rsR (onZ g len px py) (lfZ g len px py) i).2 != lfZ g len px py i) := rfl
         rw [if_neg (by simp [hi.2])] at step
         simp only [hw, e0, e1, e2, e3, f1, f2]
         refine ⟨⟨⟨by omega, by omega⟩, by omega⟩, by omega, ⟨by omega, by omega⟩, ⟨by omega, by omega⟩, s6, fun q => ?_, fun q => ⟨⟨by omega, by omega⟩, ⟨by omega, by omega⟩, s6, i + 1, ⟨by omega, ?_⟩, by omega, ?_, rfl⟩⟩
         · rw [if_pos q] at step
           rw [hv (i + 1) (rsR_stop (by rw [step])) (by omega), step]
           rfl
         · rw [if_neg (by simp [q])] at step
           rw [step]
         · rw [if_neg (by simp [q])] at step
           rw [step]
           rfl
       · have h := of_decide_eq_false h
         have : i = E := by omega
         subst this
         rw [hend]
         unfold rsV
         rw [if_neg (by simp [hi.2]), if_pos q]
       · have h := of_decide_eq_false h
         have : i = E := by omega
         subst this
         rw [hend]
         unfold rsV
         rw [if_neg (by simp [hi.2]), if_neg (by simp [q])]
   · trivial
 · trivial
theorem allB_all {p : Nat → Bool} : ∀ {m : Nat}, (∀ i, i < m → p i = true) → allB p m = true
 | 0, _ => rfl
 | m + 1, h => by
   show (allB p m && p m) = true
   rw [allB_all (fun i hi => h i (by omega)), h m (by omega)]; rfl
noncomputable def GAI : Ctx := ⟨⟨tys, []⟩, [(89, conR ringSdC)]⟩
theorem gAI : CtxOk Tryz.prog GAI := ⟨⟨tysOk, FlatsOk.nil⟩, GamOk.cons ringSd GamOk.nil, by kernel_rfl⟩
def awIP (ga gb : Nat → Int) (la : Nat) (i : Nat) : Bool := decide (1 ≤ rgS ga la (gb (2 * i)) (gb (2 * i + 1)))
def awI2 (la lb : Nat) (ga gb : Nat → Int) : Fam := ⟨Nat, fun i =>
 ⟨18, [(0, .slcc 0 la), (7, .slcc 1 lb), (8, .int .i64 lb), (9, .int .i64 i)], [(0, ⟨false, 28, .ints .i64 (2 * la) ga, 0⟩), (1, ⟨false, 28, .ints .i64 (2 * lb) gb, 0⟩)], 2⟩, fun i => i ≤ lb ∧ ∀ j, j < i → awIP ga gb la j = true, fun i => lb - i⟩
noncomputable def allWithinC : List SV → RdM
 | [.slcc n la, .slcc m lb] => .read n fun o0 => (match intsFrom .i64 o0.c with
   | some (m0, ga) => .read m fun o1 => (match intsFrom .i64 o1.c with
   | some (m1, gb) => .ret ⟨[.slcc 0 la, .slcc 1 lb], [(0, ⟨false, 28, .ints .i64 m0 ga, 0⟩), (1, ⟨false, 28, .ints .i64 m1 gb, 0⟩)], .bool (allB (awIP ga gb la) lb), [], [], some (m0 = 2 * la ∧ m1 = 2 * lb ∧ (la ≤ 1000000 ∧ lb ≤ 1000000) ∧ (∀ j, j < 2 * la → small (ga j)) ∧ (∀ j, j < 2 * lb → small (gb j)))⟩
   | none => .fail)
   | none => .fail)
 | _ => .fail
theorem vc_allWithin (la lb : Nat)  (ga : Nat → Int) (gb : Nat → Int) : runA GAI 2 [(2, awI2 la lb ga gb)] [] (codeOf Tryz.f57) (init Tryz.f57.ntmps [.slcc 0 la, .slcc 1 lb] [(0, ⟨false, 28, .ints .i64 (2 * la) ga, 0⟩), (1, ⟨false, 28, .ints .i64 (2 * lb) gb, 0⟩)] 2) (endK GAI.E.T Tryz.f57.results.toList fun S v => postP 2 ⟨[.slcc 0 la, .slcc 1 lb], [(0, ⟨false, 28, .ints .i64 (2 * la) ga, 0⟩), (1, ⟨false, 28, .ints .i64 (2 * lb) gb, 0⟩)], .bool (allB (awIP ga gb la) lb), [], [], some (2 * la = 2 * la ∧ 2 * lb = 2 * lb ∧ (la ≤ 1000000 ∧ lb ≤ 1000000) ∧ (∀ j, j < 2 * la → small (ga j)) ∧ (∀ j, j < 2 * lb → small (gb j)))⟩ S v) = (
(∃ (i : Nat), (i ≤ lb ∧ ∀ (j : Nat), j < i → awIP ga gb la j = true) ∧ ((True ∧ la = la) ∧ (True ∧ lb = lb) ∧ (↑lb : Int) = (↑lb : Int) ∧ 0 = (↑i : Int) ∧ True) ∧ True ∧ (2 * la ≤ 2 * la ∧ ∀ (i : Nat), i < 2 * la → ga i = ga i) ∧ True ∧ (2 * lb ≤ 2 * lb ∧ ∀ (i : Nat), i < 2 * lb → gb i = gb i) ∧ True) ∧ ∀ (i : Nat), (i ≤ lb ∧ ∀ (j : Nat), j < i → awIP ga gb la j = true) → (decide ((↑i : Int) < (↑lb : Int))
= true → ((0 ≤ (↑i : Int) ∧ (↑i : Int) < (↑lb : Int)) ∧ 1 ≤ 2 * lb) ∧ 0 + Int.toNat (↑i : Int) * 2 + 2 ≤ 2 * lb ∧ (2 * la = 2 * la ∧ la ≤ 1000000 ∧ (∀ (j : Nat), j < 2 * la → small (ga j)) ∧ small (gb (0 + Int.toNat (↑i : Int) * 2)) ∧ small (gb (0 + Int.toNat (↑i : Int) * 2 + 1))) ∧ (decide (rgS ga
 la (gb (0 + Int.toNat (↑i : Int) * 2)) (gb (0 + Int.toNat (↑i : Int) * 2 + 1)) < (1 : Int)) = true → allB (awIP ga gb la) lb = false ∧ True) ∧ (decide (rgS
 ga la (gb (0 + Int.toNat (↑i : Int) * 2)) (gb (0 + Int.toNat (↑i : Int) * 2 + 1)) < (1 : Int)) = false → ∃ (i' : Nat), (i' ≤ lb ∧ ∀ (j : Nat), j < i' → awIP ga gb la j = true) ∧ lb - i' < lb -
 i ∧ ((True ∧ la = la) ∧ (True ∧ lb = lb) ∧ (↑lb : Int) = (↑lb : Int) ∧ Go.IntKind.wrap .i64 ((↑i : Int) + 1) = (↑i' : Int) ∧ True) ∧ True ∧ (2 * la ≤ 2 * la ∧ ∀ (i : Nat), i < 2 * la → ga i = ga i) ∧ True ∧ (2
* lb ≤ 2 * lb ∧ ∀ (i : Nat), i < 2 * lb → gb i = gb i) ∧ True)) ∧ (decide ((↑i : Int) < (↑lb : Int)) = false → allB (awIP ga gb la) lb = true ∧ True)) := by kernel_rfl
theorem allWithin : ConOk Tryz.prog 57 (conR allWithinC) := by
 refine con_of_vc gAI Tryz.func57 rfl (by kernel_rfl) fun args => ?_
 unfold allWithinC
 split
 · rename_i n la m lb
   intro o0
   show RdM.All _ (match intsFrom .i64 o0.c with | some (m, g) => _ | none => _) _
   split
   · rename_i m0 ga hm0
     intro o1
     show RdM.All _ (match intsFrom .i64 o1.c with | some (m, g) => _ | none => _) _
     split
     · rename_i m1 gb hm1
       intro ho
       replace ho : m0 = 2 * la ∧ m1 = 2 * lb ∧ (la ≤ 1000000 ∧ lb ≤ 1000000) ∧ (∀ j, j < 2 * la → small (ga j)) ∧ (∀ j, j < 2 * lb → small (gb j)) := ho
       obtain ⟨hsz0, hsz1, ho⟩ := ho
       subst hsz0
       subst hsz1
       refine ⟨?_, _, _, (vc_allWithin la lb ga gb).mpr ?_⟩
       · refine okFlag_mk rfl ⟨?_, ⟨trivial, (contR_ints hm0).1, ⟨trivial, (contR_ints hm1).1, trivial⟩⟩⟩
         simp [eqvRL, eqvR, sgSig, fsts, nth, sameN_self]
       · obtain ⟨⟨hla, hlb⟩, hga, hgb⟩ := ho
         simp only [true_and, and_true, eq_self, Nat.le_refl, implies_true, Int.toNat_natCast]
         refine ⟨⟨0, ⟨by omega, fun j hj => by omega⟩, rfl⟩, fun i hi => ⟨fun h => ?_, fun h => ?_⟩⟩
         · have h := of_decide_eq_true h
           have hw : IntKind.i64.wrap ((i : Int) + 1) = ((i + 1 : Nat) : Int) := by rw [wrap64 (by omega) (by omega)]; omega
           have e0 : gb (0 + i * 2) = gb (2 * i) := by congr 1; omega
           have e1 : gb (0 + i * 2 + 1) = gb (2 * i + 1) := by congr 1; omega
           simp only [hw, e0, e1]
           refine ⟨⟨⟨by omega, by omega⟩, by omega⟩, by omega, ⟨hla, hga, hgb _ (by omega), hgb _ (by omega)⟩, fun q => ?_, fun q => ⟨i + 1, ⟨by omega, ?_⟩, by omega, rfl⟩⟩
           · have q := of_decide_eq_true q
             have q' : ¬ 1 ≤ rgS ga la (gb (2 * i)) (gb (2 * i + 1)) := by omega
             exact allB_no (show i < lb by omega) (decide_eq_false q')
           · have q := of_decide_eq_false q
             intro j hj
             by_cases e : j = i
             · subst e; exact decide_eq_true (show 1 ≤ rgS ga la (gb (2 * j)) (gb (2 * j + 1)) by omega)
             · exact hi.2 j (by omega)
         · have h := of_decide_eq_false h
           have : i = lb := by omega
           subst this
           exact allB_all hi.2
     · trivial
   · trivial
 · trivial
def nxE (E i : Nat) : Nat := if i + 1 = E then 0 else i + 1
def sdE (g : Nat → Int) (len i : Nat) (x y : Int) : Int := cross (eZ g len 0 i) (eZ g len 1 i) (eZ g len 2 i) (eZ g len 3 i) x y
def tn1 (g : Nat → Int) (len E i : Nat) : Bool := !((eZ g len 0 i == eZ g len 2 i && eZ g len 1 i == eZ g len 3 i) || decide (sdE g len i (eZ g len 2 (nxE E i)) (eZ g len 3 (nxE E i)) < 0))
def tn2 (g : Nat → Int) (len i j : Nat) : Bool := decide (0 ≤ sdE g len i (g (2 * j)) (g (2 * j + 1)))
def okE (g : Nat → Int) (len E i : Nat) : Bool := tn1 g len E i && allB (tn2 g len i) len
def arI (g : Nat → Int) (len : Nat) : Nat → Int
 | 0 => 0
 | i + 1 => IntKind.i64.wrap (arI g len i + cross (g 0) (g 1) (eZ g len 0 i) (eZ g len 1 i) (eZ g len 2 i) (eZ g len 3 i))
def upE (g : Nat → Int) (len i : Nat) : Bool := upZ (eZ g len 0 i) (eZ g len 1 i) (eZ g len 2 i) (eZ g len 3 i)
def rdI (g : Nat → Int) (len E : Nat) : Nat → Int
 | 0 => 0
 | i + 1 => if (!upE g len i && upE g len (nxE E i)) = true then IntKind.i64.wrap (rdI g len E i + 1) else rdI g len E i
def isCvE (g : Nat → Int) (len E : Nat) : Bool := decide (3 ≤ E) && (allB (okE g len E) E && (decide (0 < arI g len E) && (rdI g len E E == 1)))
def isCv (g : Nat → Int) (len : Nat) : Bool := isCvE g len (nsegs len true g)
noncomputable def GCV : Ctx := ⟨⟨tys, FL⟩, [(86, conR polyEdC), (87, pureCon sideF), (88, pureCon polyUpF)]⟩
theorem gCV : CtxOk Tryz.prog GCV := ⟨⟨tysOk, flOk⟩, GamOk.cons polyEd (GamOk.cons (.pure side) (GamOk.cons (.pure polyUp) GamOk.nil)), by kernel_rfl⟩
def bxE (g : Nat → Int) (len i : Nat) : Ob := ⟨true, 29, .cells [.int .i64 (eZ g len 0 i), .int .i64 (eZ g len 1 i), .int .i64 (eZ g len 2 i), .int .i64 (eZ g len 3 i)], 0⟩
def cv2 (len : Nat) (g : Nat → Int) (i : Nat) : Fam := ⟨Nat, fun j =>
 ⟨87, [(0, .slcc 0 len), (3, .slcc 1 (nsegs len true g)), (4, .int .i64 (arI g len i)), (5, .int .i64 (rdI g len (nsegs len true g) i)), (7, .ptr 2 0), (8, .ptr 3 0), (16, .slcc 1 (nsegs len true g)), (17, .int .i64 (nsegs len true g)), (18, .int .i64 i), (46, .slcc 0 len), (47, .int .i64 len), (48, .int .i64 j)],
   [(0, ⟨false, 28, .ints .i64 (2 * len) g, 0⟩), (1, ⟨true, 29, .ints .i64 (4 * nsegs len true g) (segI g len), 4⟩), (2, bxE g len i), (3, bxE g len (nxE (nsegs len true g) i))], 4⟩,
 fun j => (i < nsegs len true g ∧ ∀ m, m < i → okE g len (nsegs len true g) m = true) ∧ tn1 g len (nsegs len true g) i = true ∧ j ≤ len ∧ ∀ m, m < j → tn2 g len i m = true, fun j => len - j⟩
def cv1 (len : Nat) (g : Nat → Int) : Fam := ⟨Nat, fun i =>
 ⟨87, [(0, .slcc 0 len), (3, .slcc 1 (nsegs len true g)), (4, .int .i64 (arI g len i)), (5, .int .i64 (rdI g len (nsegs len true g) i)), (16, .slcc 1 (nsegs len true g)), (17, .int .i64 (nsegs len true g)), (18, .int .i64 i)],
   [(0, ⟨false, 28, .ints .i64 (2 * len) g, 0⟩), (1, ⟨true, 29, .ints .i64 (4 * nsegs len true g) (segI g len), 4⟩)], 2⟩, fun i => i ≤ nsegs len true g ∧ ∀ j, j < i → okE g len (nsegs len true g) j = true, fun i => nsegs len true g - i⟩
def cv1L (len : Nat) (g : Nat → Int) : LFam := ⟨cv1 len g, fun i => [(12, cv2 len g i)]⟩
noncomputable def isConvexC : List SV → RdM
 | [.slcc n len] => .read n fun o0 => (match intsFrom .i64 o0.c with
   | some (m0, g) => .ret ⟨[.slcc 0 len], [(0, ⟨false, 28, .ints .i64 m0 g, 0⟩)], .bool (isCv g len), [], [], some (m0 = 2 * len ∧ len ≤ 1000000 ∧ (∀ j, j < 2 * len → small (g j)))⟩
   | none => .fail)
 | _ => .fail
theorem vc_isConvex (len : Nat)  (g : Nat → Int) : runA GCV 1 [(6, cv1L len g)] [] (codeOf Tryz.f53) (init Tryz.f53.ntmps [.slcc 0 len] [(0, ⟨false, 28, .ints .i64 (2 * len) g, 0⟩)] 1) (endK GCV.E.T Tryz.f53.results.toList fun S v => postP 1 ⟨[.slcc 0 len], [(0, ⟨false, 28, .ints .i64 (2 * len) g, 0⟩)], .bool (isCv g len), [], [], some (2 * len = 2 * len ∧ len ≤ 1000000 ∧ (∀ j, j < 2 * len → small (g j)))⟩ S v) = (
(2 * len = 2 * len ∧ len ≤ 1000000) ∧ (decide ((↑(nsegs len true g) : Int) < 3) = true → isCv g len = false ∧ True) ∧ (decide ((↑(nsegs len true g) : Int) < (3 :
 Int)) = false → (∃ (i : Nat), (i ≤ nsegs len true g ∧ ∀ (j : Nat), j < i → okE g len (nsegs len true g) j = true) ∧ ((True ∧ len = len) ∧ (True ∧ nsegs len true g =
 nsegs len true g) ∧ (0 : Int) = arI g len i ∧ (0 : Int) = rdI g len (nsegs len true g) i ∧ (True ∧ nsegs len true g = nsegs len true g) ∧
(↑(nsegs len true g) : Int) = (↑(nsegs len true g) : Int) ∧ 0 = (↑i : Int) ∧ True) ∧ True ∧ (2 * len ≤ 2 * len ∧ ∀ (i : Nat), i < 2 * len → g i = g i) ∧ True ∧ (29 = 29 ∧ 4 = 4 ∧ 4 * nsegs len true g ≤ 4 * nsegs len true g ∧ ∀ (i : Nat), i < 4 * nsegs len true g → segI g len i = segI
 g len i) ∧ True) ∧ ∀ (i : Nat), (i ≤ nsegs len true g ∧ ∀ (j : Nat), j < i → okE g len (nsegs len true g) j = true) → (decide ((↑i : Int) < (↑(nsegs len true g) : Int)) = true →
((0 ≤ (↑i : Int) ∧ (↑i : Int) < (↑(nsegs len true g) : Int)) ∧ 1 ≤ 4 * nsegs len true g) ∧ 0 + Int.toNat (↑i : Int) * 4 + 4 ≤ 4 * nsegs len
 true g ∧ (↑(nsegs len true g) : Int) ≠ 0 ∧ (((0 : Int) ≤ Int.tmod (Go.IntKind.wrap .i64 ((↑i : Int) + 1)) (↑(nsegs len true g) : Int) ∧ Int.tmod (Go.IntKind.wrap .i64 ((↑i : Int) + 1))
(↑(nsegs len true g) : Int) < (↑(nsegs len true g) : Int)) ∧ 1 ≤ 4 * nsegs len true g) ∧ 0 + Int.toNat (Int.tmod (Go.IntKind.wrap .i64 ((↑i : Int) + 1))
(↑(nsegs len true g) : Int)) * 4 + 4 ≤ 4 * nsegs len true g ∧ (((0 : Int) ≤ 0 ∧ (0 : Int) < 2) ∧ True) ∧ (((0 : Int) ≤ 1 ∧ (1 : Int) < 2) ∧ True) ∧
((segI g len (0 + Int.toNat (↑i : Int) * 4) == segI g len (0 + Int.toNat (↑i : Int) * 4 + 1 + 1) && (segI g len (0 + Int.toNat (↑i : Int) *
4 + 1) == segI g len (0 + Int.toNat (↑i : Int) * 4 + 1 + 1 + 1) && true)) = true → isCv g len = false ∧ True) ∧ ((segI g len (0 +
 Int.toNat (↑i : Int) * 4) == segI g len (0 + Int.toNat (↑i : Int) * 4 + 1 + 1) && (segI g len (0 + Int.toNat (↑i : Int) * 4 + 1) ==
 segI g len (0 + Int.toNat (↑i : Int) * 4 + 1 + 1 + 1) && true)) = false → (((0 : Int) ≤ 0 ∧ (0 : Int) < 2) ∧ True) ∧ (((0 : Int) ≤ 1 ∧ (1 : Int) < 2) ∧ True) ∧
(((0 : Int) ≤ 1 ∧ (1 : Int) < 2) ∧ True) ∧ small6 (segI g len (0 + Int.toNat (↑i : Int) * 4)) (segI g len (0 + Int.toNat (↑i : Int) * 4 + 1)) (segI g len (0 + Int.toNat (↑i : Int) * 4 + 1 + 1)) (segI g len (0 + Int.toNat (↑i : Int) * 4 + 1 + 1 + 1)) (segI g
 len (0 + Int.toNat (Int.tmod (Go.IntKind.wrap .i64 ((↑i : Int) + 1)) (↑(nsegs len true g) : Int)) * 4 + 1 + 1)) (segI g len (0 + Int.toNat (Int.tmod (Go.IntKind.wrap
.i64 ((↑i : Int) + 1)) (↑(nsegs len true g) : Int)) * 4 + 1 + 1 + 1)) ∧ (decide (Go.Geo.cross (segI g len (0 + Int.toNat (↑i : Int) * 4))
(segI g len (0 + Int.toNat (↑i : Int) * 4 + 1)) (segI g len (0 + Int.toNat (↑i : Int) * 4 + 1 + 1)) (segI g len (0 + Int.toNat (↑i :
 Int) * 4 + 1 + 1 + 1)) (segI g len (0 + Int.toNat (Int.tmod (Go.IntKind.wrap .i64 ((↑i : Int) + 1)) (↑(nsegs len true g) : Int)) * 4 + 1 + 1))
(segI g len (0 + Int.toNat (Int.tmod (Go.IntKind.wrap .i64 ((↑i : Int) + 1)) (↑(nsegs len true g) : Int)) * 4 + 1 + 1 + 1)) < (0 : Int)) = true →
 isCv g len = false ∧ True) ∧ (decide (Go.Geo.cross (segI g len (0 + Int.toNat (↑i : Int) * 4)) (segI g len (0 + Int.toNat (↑i : Int) * 4 + 1))
(segI g len (0 + Int.toNat (↑i : Int) * 4 + 1 + 1)) (segI g len (0 + Int.toNat (↑i : Int) * 4 + 1 + 1 + 1)) (segI g len (0 + Int.toNat (Int.tmod (Go.IntKind.wrap .i64 ((↑i : Int) + 1)) (↑(nsegs len true g) : Int)) * 4 + 1 + 1)) (segI g len (0 + Int.toNat (Int.tmod (Go.IntKind.wrap .i64
((↑i : Int) + 1)) (↑(nsegs len true g) : Int)) * 4 + 1 + 1 + 1)) < (0 : Int)) = false → (∃ (j : Nat), ((i < nsegs len true g ∧ ∀ (m : Nat), m < i → okE g
 len (nsegs len true g) m = true) ∧ tn1 g len (nsegs len true g) i = true ∧ j ≤ len ∧ ∀ (m : Nat), m < j → tn2 g len i m = true) ∧ ((True ∧ len = len) ∧ (True ∧
 nsegs len true g = nsegs len true g) ∧ arI g len i = arI g len i ∧ rdI g len (nsegs len true g) i = rdI g len
(nsegs len true g) i ∧ (True ∧ 0 = 0) ∧ (True ∧ 0 = 0) ∧ (True ∧ nsegs len true g = nsegs len true g) ∧ (↑(nsegs len true g) : Int) =
(↑(nsegs len true g) : Int) ∧ (↑i : Int) = (↑i : Int) ∧ (True ∧ len = len) ∧ (↑len : Int) = (↑len : Int) ∧ 0 = (↑j : Int) ∧ True) ∧ True ∧ (2 * len ≤ 2 * len ∧ ∀ (i : Nat), i < 2 * len → g i = g i) ∧
 True ∧ (29 = 29 ∧ 4 = 4 ∧ 4 * nsegs len true g ≤ 4 * nsegs len true g ∧ ∀ (i : Nat), i < 4 * nsegs len true g → segI g len
 i = segI g len i) ∧ True ∧ (29 = 29 ∧ 0 = 0 ∧ segI g len (0 + Int.toNat (↑i : Int) * 4) = eZ g len 0 i ∧ segI g len (0 + Int.toNat (↑i : Int) * 4 + 1) = eZ g len 1 i ∧ segI g len (0 + Int.toNat (↑i : Int) * 4 + 1 + 1) = eZ g len 2 i ∧
 segI g len (0 + Int.toNat (↑i : Int) * 4 + 1 + 1 + 1) = eZ g len 3 i ∧ True) ∧ True ∧ (29 = 29 ∧ 0 = 0 ∧ segI g len
(0 + Int.toNat (Int.tmod (Go.IntKind.wrap .i64 ((↑i : Int) + 1)) (↑(nsegs len true g) : Int)) * 4) = eZ g len 0 (nxE (nsegs len true g) i) ∧
 segI g len (0 + Int.toNat (Int.tmod (Go.IntKind.wrap .i64 ((↑i : Int) + 1)) (↑(nsegs len true g) : Int)) * 4 + 1) = eZ g len 1 (nxE
(nsegs len true g) i) ∧ segI g len (0 + Int.toNat (Int.tmod (Go.IntKind.wrap .i64 ((↑i : Int) + 1)) (↑(nsegs len true g) : Int)) * 4 + 1 + 1) =
 eZ g len 2 (nxE (nsegs len true g) i) ∧ segI g len (0 + Int.toNat (Int.tmod (Go.IntKind.wrap .i64 ((↑i : Int) + 1)) (↑(nsegs len true g)
: Int)) * 4 + 1 + 1 + 1) = eZ g len 3 (nxE (nsegs len true g) i) ∧ True) ∧ True) ∧ ∀ (j : Nat), ((i < nsegs len true g ∧ ∀ (m : Nat), m <
 i → okE g len (nsegs len true g) m = true) ∧ tn1 g len (nsegs len true g) i = true ∧ j ≤ len ∧ ∀ (m : Nat), m < j → tn2 g len i m = true) → (∃ (i_1 : Nat), ((i
< nsegs len true g ∧ ∀ (m : Nat), m < i → okE g len (nsegs len true g) m = true) ∧ tn1 g len (nsegs len true g) i = true ∧ i_1 ≤ len ∧ ∀ (m : Nat), m < i_1 →
 tn2 g len i m = true) ∧ ((True ∧ len = len) ∧ (True ∧ nsegs len true g = nsegs len true g) ∧ arI g len i = arI g len i ∧ rdI g len
(nsegs len true g) i = rdI g len (nsegs len true g) i ∧ (True ∧ 0 = 0) ∧ (True ∧ 0 = 0) ∧ (True ∧ nsegs len true g = nsegs len
 true g) ∧ (↑(nsegs len true g) : Int) = (↑(nsegs len true g) : Int) ∧ (↑i : Int) = (↑i : Int) ∧ (True ∧ len = len) ∧ (↑len : Int) = (↑len : Int) ∧ (↑j : Int) = (↑i_1 : Int) ∧ True) ∧ True ∧ (2 * len ≤ 2 * len ∧ ∀ (i : Nat), i < 2 * len → g i = g i) ∧ True ∧ (29 = 29 ∧ 4 = 4 ∧ 4 * nsegs len true g ≤ 4 * nsegs len true g ∧ ∀ (i : Nat), i < 4 *
 nsegs len true g → segI g len i = segI g len i) ∧ True ∧ (29 = 29 ∧ 0 = 0 ∧ eZ g len 0 i = eZ g len 0 i ∧
 eZ g len 1 i = eZ g len 1 i ∧ eZ g len 2 i = eZ g len 2 i ∧ eZ g len 3 i = eZ g len 3 i ∧
 True) ∧ True ∧ (29 = 29 ∧ 0 = 0 ∧ eZ g len 0 (nxE (nsegs len true g) i) = eZ g len 0 (nxE
(nsegs len true g) i) ∧ eZ g len 1 (nxE (nsegs len true g) i) = eZ g len 1 (nxE (nsegs len true g) i) ∧
 eZ g len 2 (nxE (nsegs len true g) i) = eZ g len 2 (nxE (nsegs len true g) i) ∧ eZ g len 3
(nxE (nsegs len true g) i) = eZ g len 3 (nxE (nsegs len true g) i) ∧ True) ∧ True) ∧ ∀ (i_1 : Nat), ((i < nsegs len true g ∧ ∀ (m :
 Nat), m < i → okE g len (nsegs len true g) m = true) ∧ tn1 g len (nsegs len true g) i = true ∧ i_1 ≤ len ∧ ∀ (m : Nat), m < i_1 → tn2 g len i m = true) →
(decide ((↑i_1 : Int) < (↑len : Int)) = true → ((0 ≤ (↑i_1 : Int) ∧ (↑i_1 : Int) < (↑len : Int)) ∧ 1 ≤ 2 * len) ∧ 0 + Int.toNat (↑i_1 : Int) * 2 + 2 ≤ 2 * len ∧ (((0 : Int) ≤ 0 ∧ (0 :
 Int) < (2 : Int)) ∧ True) ∧ (((0 : Int) ≤ 1 ∧ (1 : Int) < 2) ∧ True) ∧ small6 (eZ g len 0 i) (eZ g len 1 i) (eZ g len 2 i)
(eZ g len 3 i) (g (0 + Int.toNat (↑i_1 : Int) * 2)) (g (0 + Int.toNat (↑i_1 : Int) * 2 + 1)) ∧ (decide (Go.Geo.cross (eZ g len 0 i) (eZ g
 len 1 i) (eZ g len 2 i) (eZ g len 3 i) (g (0 + Int.toNat (↑i_1 : Int) * 2)) (g (0 + Int.toNat (↑i_1 : Int) * 2 + 1)) < (0 : Int)) = true →
 isCv g len = false ∧ True) ∧ (decide (Go.Geo.cross (eZ g len 0 i) (eZ g len 1 i) (eZ g len 2 i) (eZ g len 3 i) (g (0 +
 Int.toNat (↑i_1 : Int) * 2)) (g (0 + Int.toNat (↑i_1 : Int) * 2 + 1)) < (0 : Int)) = false → ∃ (i' : Nat), ((i < nsegs len true g ∧ ∀ (m : Nat), m < i → okE g len
(nsegs len true g) m = true) ∧ tn1 g len (nsegs len true g) i = true ∧ i' ≤ len ∧ ∀ (m : Nat), m < i' → tn2 g len i m = true) ∧ len - i' < len - i_1 ∧ ((True ∧ len = len) ∧ (True
∧ nsegs len true g = nsegs len true g) ∧ arI g len i = arI g len i ∧ rdI g len (nsegs len true g) i = rdI g len
(nsegs len true g) i ∧ (True ∧ 0 = 0) ∧ (True ∧ 0 = 0) ∧ (True ∧ nsegs len true g = nsegs len true g) ∧ (↑(nsegs len true g) : Int) =
(↑(nsegs len true g) : Int) ∧ (↑i : Int) = (↑i : Int) ∧ (True ∧ len = len) ∧ (↑len : Int) = (↑len : Int) ∧ Go.IntKind.wrap .i64 ((↑i_1 : Int) + 1) = (↑i' : Int) ∧ True) ∧ True ∧ (2 * len ≤ 2 * len ∧ ∀ (i :
 Nat), i < 2 * len → g i = g i) ∧ True ∧ (29 = 29 ∧ 4 = 4 ∧ 4 * nsegs len true g ≤ 4 * nsegs len true g ∧ ∀ (i : Nat), i < 4 * nsegs
 len true g → segI g len i = segI g len i) ∧ True ∧ (29 = 29 ∧ 0 = 0 ∧ eZ g len 0 i = eZ g len 0 i ∧ eZ g len 1 i = eZ g len 1 i ∧ eZ g len 2 i = eZ g len 2 i ∧ eZ g len 3 i = eZ g len 3 i ∧ True) ∧ True ∧ (29 = 29 ∧ 0 = 0 ∧ eZ g len 0 (nxE (nsegs len true g) i) = eZ g len 0 (nxE (nsegs len true g) i) ∧
 eZ g len 1 (nxE (nsegs len true g) i) = eZ g len 1 (nxE (nsegs len true g) i) ∧ eZ g len 2
(nxE (nsegs len true g) i) = eZ g len 2 (nxE (nsegs len true g) i) ∧ eZ g len 3 (nxE
(nsegs len true g) i) = eZ g len 3 (nxE (nsegs len true g) i) ∧ True) ∧ True)) ∧ (decide ((↑i_1 : Int) < (↑len : Int)) = false → (((0 : Int) ≤ 0 ∧ (0 : Int) <
(↑(nsegs len true g) : Int)) ∧ 1 ≤ 4 * nsegs len true g) ∧ (((0 : Int) ≤ 0 ∧ (0 : Int) < 2) ∧ 1 ≤ 4 * nsegs len true g) ∧ 2 ≤ 4 *
 nsegs len true g ∧ (((0 : Int) ≤ 0 ∧ (0 : Int) < 2) ∧ True) ∧ (((0 : Int) ≤ 1 ∧ (1 : Int) < 2) ∧ True) ∧ small6 (segI g len 0) (segI g len
1) (eZ g len 0 i) (eZ g len 1 i) (eZ g len 2 i) (eZ g len 3 i) ∧ true = true ∧ ((!upZ (eZ g len 0 i) (eZ g len 1 i) (eZ g len 2 i) (eZ g len 3 i)) = true → (upZ (eZ g len 0 (nxE (nsegs
 len true g) i)) (eZ g len 1 (nxE (nsegs len true g) i)) (eZ g len 2 (nxE (nsegs len true g) i)) (eZ g len 3 (nxE (nsegs len true g) i)) = true → ∃ (i' : Nat), (i' ≤ nsegs len true g ∧ ∀ (j : Nat), j < i' → okE g len (nsegs len true g) j = true) ∧
 nsegs len true g - i' < nsegs len true g - i ∧ ((True ∧ len = len) ∧ (True ∧ nsegs len true g = nsegs len true g) ∧ Go.IntKind.wrap .i64 (arI g len i +
 Go.Geo.cross (segI g len 0) (segI g len 1) (eZ g len 0 i) (eZ g len 1 i) (eZ g len 2 i) (eZ g len 3 i)) = arI g len i' ∧ Go.IntKind.wrap .i64 (rdI g len (nsegs len true g) i + (1 : Int)) = rdI g len (nsegs len true g) i' ∧ (True ∧ nsegs
 len true g = nsegs len true g) ∧ (↑(nsegs len true g) : Int) = (↑(nsegs len true g) : Int) ∧ Go.IntKind.wrap .i64 ((↑i : Int) + 1) = (↑i' : Int) ∧ True) ∧ True ∧ (2 * len ≤ 2 * len ∧ ∀ (i : Nat), i < 2 * len → g i = g i) ∧ True ∧ (29 = 29 ∧ 4 = 4 ∧ 4 * nsegs len true g ≤ 4 * nsegs len true g ∧ ∀ (i : Nat), i < 4 *
 nsegs len true g → segI g len i = segI g len i) ∧ True) ∧ (upZ (eZ g len 0 (nxE (nsegs len true g) i))
(eZ g len 1 (nxE (nsegs len true g) i)) (eZ g len 2 (nxE (nsegs len true g) i)) (eZ g len 3
(nxE (nsegs len true g) i)) = false → ∃ (i' : Nat), (i' ≤ nsegs len true g ∧ ∀ (j : Nat), j < i' → okE g len (nsegs len true g) j = true) ∧
 nsegs len true g - i' < nsegs len true g - i ∧ ((True ∧ len = len) ∧ (True ∧ nsegs len true g = nsegs len true g) ∧ Go.IntKind.wrap .i64 (arI g len i +
 Go.Geo.cross (segI g len 0) (segI g len 1) (eZ g len 0 i) (eZ g len 1 i) (eZ g len 2 i) (eZ g len 3 i)) = arI g len i' ∧ rdI g len (nsegs len true g) i = rdI g len (nsegs len true g) i' ∧ (True ∧ nsegs len true g =
 nsegs len true g) ∧ (↑(nsegs len true g) : Int) = (↑(nsegs len true g) : Int) ∧ Go.IntKind.wrap .i64 ((↑i : Int) + 1) = (↑i' : Int) ∧ True) ∧ True ∧ (2 * len ≤ 2 * len ∧ ∀
(i : Nat), i < 2 * len → g i = g i) ∧ True ∧ (29 = 29 ∧ 4 = 4 ∧ 4 * nsegs len true g ≤ 4 * nsegs len true g ∧ ∀ (i : Nat), i < 4 *
 nsegs len true g → segI g len i = segI g len i) ∧ True)) ∧ ((!upZ (eZ g len 0 i) (eZ g len 1 i) (eZ g len 2 i) (eZ g len 3 i)) = false → ∃ (i' : Nat), (i' ≤ nsegs len true g ∧ ∀ (j : Nat), j < i' → okE g len (nsegs len true g) j = true) ∧ nsegs len true
 g - i' < nsegs len true g - i ∧ ((True ∧ len = len) ∧ (True ∧ nsegs len true g = nsegs len true g) ∧ Go.IntKind.wrap .i64 (arI g len i + Go.Geo.cross (segI g
 len 0) (segI g len 1) (eZ g len 0 i) (eZ g len 1 i) (eZ g len 2 i) (eZ g len 3 i)) = arI g len
 i' ∧ rdI g len (nsegs len true g) i = rdI g len (nsegs len true g) i' ∧ (True ∧ nsegs len true g = nsegs len true g) ∧
(↑(nsegs len true g) : Int) = (↑(nsegs len true g) : Int) ∧ Go.IntKind.wrap .i64 ((↑i : Int) + 1) = (↑i' : Int) ∧ True) ∧ True ∧ (2 * len ≤ 2 * len ∧ ∀ (i : Nat), i < 2 * len → g i =
 g i) ∧ True ∧ (29 = 29 ∧ 4 = 4 ∧ 4 * nsegs len true g ≤ 4 * nsegs len true g ∧ ∀ (i : Nat), i < 4 * nsegs len true g →
 segI g len i = segI g len i) ∧ True))))) ∧ (decide ((↑i : Int) < (↑(nsegs len true g) : Int)) = false → (decide ((0 : Int) < arI g len i) = true → (rdI g len
(nsegs len true g) i == (1 : Int)) = isCv g len ∧ True) ∧ (decide ((0 : Int) < arI g len i) = false → isCv g len = false ∧ True)))) := by kernel_rfl
theorem isConvex : ConOk Tryz.prog 53 (conR isConvexC) := by
 refine con_of_vc gCV Tryz.func53 rfl (by kernel_rfl) fun args => ?_
 unfold isConvexC
 split
 · rename_i n len
   intro o0
   show RdM.All _ (match intsFrom .i64 o0.c with | some (m, g) => _ | none => _) _
   split
   · rename_i m0 g hm0
     intro ho
     replace ho : m0 = 2 * len ∧ len ≤ 1000000 ∧ (∀ j, j < 2 * len → small (g j)) := ho
     obtain ⟨hsz0, ho⟩ := ho
     subst hsz0
     refine ⟨?_, _, _, (vc_isConvex len g).mpr ?_⟩
     · refine okFlag_mk rfl ⟨?_, ⟨trivial, (contR_ints hm0).1, trivial⟩⟩
       simp [eqvRL, eqvR, sgSig, fsts, nth, sameN_self]
     · obtain ⟨hl, hg⟩ := ho
       have hE := nsegs_le len true g
       have hsm := fun (k i : Nat) (hi : i < nsegs len true g) (hk : k < 4) => eZ_small hg hi hk
       have hcv : isCv g len = isCvE g len (nsegs len true g) := rfl
       rw [hcv]
       have hse : (0 < nsegs len true g → segI g len 0 = g 0 ∧ segI g len 1 = g 1) := fun h => by
         have hl2 : 2 ≤ len := by
           rcases Nat.lt_or_ge len 2 with h' | h'
           · have : nsegs len true g = 0 := if_pos (.inl h')
             omega
           · exact h'
         constructor <;> · unfold segI; rw [if_pos (by omega)]
       have hs0 : 0 < nsegs len true g → small (g 0) ∧ small (g 1) := fun h => ⟨hg 0 (by omega), hg 1 (by omega)⟩
       generalize nsegs len true g = E at *
       have e0 : ∀ i : Nat, segI g len (0 + i * 4) = eZ g len 0 i := fun i => by unfold eZ; congr 1; omega
       have e1 : ∀ i : Nat, segI g len (0 + i * 4 + 1) = eZ g len 1 i := fun i => by unfold eZ; congr 1; omega
       have e2 : ∀ i : Nat, segI g len (0 + i * 4 + 1 + 1) = eZ g len 2 i := fun i => by unfold eZ; congr 1; omega
       have e3 : ∀ i : Nat, segI g len (0 + i * 4 + 1 + 1 + 1) = eZ g len 3 i := fun i => by unfold eZ; congr 1; omega
       have no : ∀ i, i < E → okE g len E i = false → isCvE g len E = false := fun i hi h => by
         unfold isCvE
         rw [allB_no hi h]
         simp
       refine ⟨⟨rfl, hl⟩, fun h => ?_, fun h => ?_⟩
       · have h := of_decide_eq_true h
         unfold isCvE
         rw [decide_eq_false (by omega)]
         exact ⟨rfl, trivial⟩
       have h3 := of_decide_eq_false h
       have hE0 : 0 < E := by omega
       simp only [true_and, and_true, eq_self, Nat.le_refl, implies_true, Int.toNat_natCast, e0, e1, e2, e3]
       refine ⟨⟨0, ⟨by omega, fun j hj => by omega⟩, rfl, rfl, rfl⟩, fun i hi => ⟨fun h => ?_, fun h => ?_⟩⟩
       · have hiE : i < E := by have := of_decide_eq_true h; omega
         have hw : IntKind.i64.wrap ((i : Int) + 1) = ((i + 1 : Nat) : Int) := by rw [wrap64 (by omega) (by omega)]; omega
         have hm : Int.tmod (IntKind.i64.wrap ((i : Int) + 1)) (E : Int) = ((nxE E i : Nat) : Int) := by
           rw [hw]
           unfold nxE
           split
           · rename_i hh
             rw [hh]
             simp
           · rw [Int.tmod_eq_of_lt (by omega) (by omega)]
         have hnx : nxE E i < E := by unfold nxE; split <;> omega
         simp only [hm, Int.toNat_natCast]
         have hp : ∀ j : Nat, g (0 + j * 2) = g (2 * j) ∧ g (0 + j * 2 + 1) = g (2 * j + 1) := fun j => ⟨by congr 1; omega, by congr 1; omega⟩
         simp only [(hp _).1, (hp _).2]
         have s6 : ∀ x y, small x → small y → small6 (eZ g len 0 i) (eZ g len 1 i) (eZ g len 2 i) (eZ g len 3 i) x y := fun x y hx hy => ⟨⟨hsm 0 i hiE (by decide), hsm 1 i hiE (by decide)⟩, ⟨hsm 2 i hiE (by decide), hsm 3 i hiE (by decide)⟩, hx, hy⟩
         have s6' : small6 (segI g len 0) (segI g len 1) (eZ g len 0 i) (eZ g len 1 i) (eZ g len 2 i) (eZ g len 3 i) := by
           rw [(hse hE0).1, (hse hE0).2]
           exact ⟨⟨(hs0 hE0).1, (hs0 hE0).2⟩, ⟨hsm 0 i hiE (by decide), hsm 1 i hiE (by decide)⟩, hsm 2 i hiE (by decide), hsm 3 i hiE (by decide)⟩
         have z2 : ((0 : Int) ≤ 0 ∧ (0 : Int) < 2) := by omega
         have z1 : ((0 : Int) ≤ 1 ∧ (1 : Int) < 2) := by omega
         refine ⟨⟨⟨by omega, by omega⟩, by omega⟩, by omega, by omega, ⟨⟨by omega, by omega⟩, by omega⟩, by omega, z2, z1, fun q => ?_, fun q1 => ⟨z2, z1, z1, s6 _ _ (hsm 2 _ hnx (by decide)) (hsm 3 _ hnx (by decide)), fun q => ?_, fun q2 => ?_⟩⟩
         · rw [Bool.and_true] at q
           exact no i hiE (by unfold okE tn1; rw [q]; rfl)
         · exact no i hiE (by unfold okE tn1 sdE; rw [q]; simp)
         rw [Bool.and_true] at q1
         have t1 : tn1 g len E i = true := by unfold tn1 sdE; rw [q1, q2]; rfl
         refine ⟨⟨0, ⟨⟨hiE, hi.2⟩, t1, by omega, fun m hm => by omega⟩, rfl, trivial, trivial, trivial, trivial⟩, fun j0 hj0 => ⟨⟨j0, hj0, rfl⟩, fun j hj => ⟨fun hd => ?_, fun hd => ?_⟩⟩⟩
         · have hd := of_decide_eq_true hd
           have hjl : j < len := by omega
           have hw' : IntKind.i64.wrap ((j : Int) + 1) = ((j + 1 : Nat) : Int) := by rw [wrap64 (by omega) (by omega)]; omega
           refine ⟨⟨⟨by omega, by omega⟩, by omega⟩, by omega, z2, z1, s6 _ _ (hg _ (by omega)) (hg _ (by omega)), fun q => ?_, fun q => ⟨j + 1, ⟨⟨hiE, hi.2⟩, t1, by omega, fun m hm => ?_⟩, by omega, hw'⟩⟩
           · have q := of_decide_eq_true q
             exact no i hiE (by unfold okE; rw [allB_no hjl (decide_eq_false (show ¬ 0 ≤ sdE g len i (g (2 * j)) (g (2 * j + 1)) by unfold sdE; omega))]; simp)
           · have q := of_decide_eq_false q
             by_cases e : m = j
             · subst e
               exact decide_eq_true (show 0 ≤ sdE g len i (g (2 * m)) (g (2 * m + 1)) by unfold sdE; omega)
             · exact hj.2.2.2 m (by omega)
         · have hd := of_decide_eq_false hd
           have hjl : j = len := by omega
           subst hjl
           have ok : ∀ m, m < i + 1 → okE g j E m = true := fun m hm => by
             by_cases e : m = i
             · subst e
               unfold okE
               rw [t1, allB_all hj.2.2.2]
               rfl
             · exact hi.2 m (by omega)
           have ha : IntKind.i64.wrap (arI g j i + cross (segI g j 0) (segI g j 1) (eZ g j 0 i) (eZ g j 1 i) (eZ g j 2 i) (eZ g j 3 i)) = arI g j (i + 1) := by
             rw [(hse hE0).1, (hse hE0).2]
             rfl
           have hr : rdI g j E (i + 1) = if (!upE g j i && upE g j (nxE E i)) = true then IntKind.i64.wrap (rdI g j E i + 1) else rdI g j E i := rfl
           refine ⟨⟨⟨by omega, by omega⟩, by omega⟩, ⟨z2, by omega⟩, by omega, z2, z1, s6', fun q => ⟨fun q' => ⟨i + 1, ⟨by omega, ok⟩, by omega, ha, ?_, hw⟩, fun q' => ⟨i + 1, ⟨by omega, ok⟩, by omega, ha, ?_, hw⟩⟩, fun q => ⟨i + 1, ⟨by omega, ok⟩, by omega, ha, ?_, hw⟩⟩
           · rw [hr, if_pos]
             unfold upE
             rw [q, q']
             rfl
           · rw [hr, if_neg]
             unfold upE
             rw [q']
             simp
           · rw [hr, if_neg]
             unfold upE
             rw [q]
             simp
       · have h := of_decide_eq_false h
         have hiE : i = E := by omega
         subst hiE
         have hcE : isCvE g len i = (decide (0 < arI g len i) && (rdI g len i i == 1)) := by
           unfold isCvE
           rw [allB_all hi.2, decide_eq_true (show 3 ≤ i by omega)]
           rfl
         rw [hcE]
         exact ⟨fun q => by rw [q]; rfl, fun q => by rw [q]; rfl⟩
   · trivial
 · trivial
noncomputable def Gpcq : Ctx := ⟨⟨tys, []⟩, [(174, conR rcpSC)]⟩
theorem gpcq : CtxOk Tryz.prog Gpcq := ⟨⟨tysOk, FlatsOk.nil⟩, GamOk.cons rcpS GamOk.nil, by kernel_rfl⟩
noncomputable def pcq0C : List SV → RdM
 | [.ptr P 0, .agg [.flt .f64 px, .flt .f64 py]] => .read P fun o0 => (match po0 o0.c with
   | some s => .read s fun o1 => (match serOf o1.c with
   | some (cl, cw, cv, k, x, y, z, w, q, n) => .read q fun o2 => (match fltsFrom .f64 o2.c with
   | some (m2, g) => .ret ⟨[.ptr 0 0, .agg [.flt .f64 px, .flt .f64 py]], [(0, ⟨false, 137, .cells [.ifc 157 (.ptr 1 0), .nils], 0⟩), (1, ⟨false, 150, serC cl cw cv k x y z w 2 n, 0⟩), (2, ⟨false, 100, .flts .f64 m2 g, 0⟩)], .bool (rcp g n (nsg cl n (wz g)) x y z w px py true).1, [], [], some (m2 = 2 * n ∧ ((n ≤ 1000000 ∧ SmF g (2 * n)) ∧ (W1 x ∧ W1 y ∧ W1 z ∧ W1 w)) ∧ W1 px ∧ W1 py)⟩
   | none => .fail)
   | none => .fail)
   | none => .fail)
 | _ => .fail
theorem vc_pcq0 (cl cw cv : Bool) (k : Int) (x y z w : Nat) (_ : Nm) (n : Nat) (_ : Nm) (px py : Nat)  (g : Nat → Nat) : runA Gpcq 3 [(7, .unr [⟨Nat, fun _ => ⟨40, [(5, .tt), (28, .nils), (29, .int .i64 0), (30, .int .i64 0)], [], 4⟩, fun _ => (rcp g n (nsg cl n (wz g)) x y z w px py true).1 = true, fun _ => 0⟩])] [] (codeOf Tryz.f171) (init Tryz.f171.ntmps [.ptr 0 0, .agg [.flt .f64 px, .flt .f64 py]] [(0, ⟨false, 137, .cells [.ifc 157 (.ptr 1 0), .nils], 0⟩), (1, ⟨false, 150, serC cl cw cv k x y z w 2 n, 0⟩), (2, ⟨false, 100, .flts .f64 (2 * n) g, 0⟩)] 3) (endK Gpcq.E.T Tryz.f171.results.toList fun S v => postP 3 ⟨[.ptr 0 0, .agg [.flt .f64 px, .flt .f64 py]], [(0, ⟨false, 137, .cells [.ifc 157 (.ptr 1 0), .nils], 0⟩), (1, ⟨false, 150, serC cl cw cv k x y z w 2 n, 0⟩), (2, ⟨false, 100, .flts .f64 (2 * n) g, 0⟩)], .bool (rcp g n (nsg cl n (wz g)) x y z w px py true).1, [], [], some (2 * n = 2 * n ∧ ((n ≤ 1000000 ∧ SmF g (2 * n)) ∧ (W1 x ∧ W1 y ∧ W1 z ∧ W1 w)) ∧ W1 px ∧ W1 py)⟩ S v) = (
(2 * n = 2 * n ∧ n ≤ 1000000 ∧ SmF g (2 * n) ∧ W1 px ∧ W1 py) ∧ true = true ∧ ((!(rcp g n (nsg cl n
(wz g)) x y z w px py true).1) = true → (rcp g n (nsg cl n (wz g)) x y z w px py true).1 = false ∧ True) ∧ ((!(rcp g n (nsg cl n
(wz g)) x y z w px py true).1) = false → (∃ (_ : Nat), (rcp g n (nsg cl n (wz g)) x y z w px py true).1 = true ∧ (True ∧ True ∧ (0 : Int) = 0 ∧ (0 : Int) = 0
∧ True) ∧ True) ∧ (∀ (_ : Nat), (rcp g n (nsg cl n (wz g)) x y z w px py true).1 = true → (false = true → False) ∧ (false = false → (rcp g n
(nsg cl n (wz g)) x y z w px py true).1 = true ∧ True)) ∧ True)) := by kernel_rfl
theorem pcq0 : ConOk Tryz.prog 171 (conR pcq0C) := by
 refine con_of_vc gpcq Tryz.func171 rfl (by kernel_rfl) fun args => ?_
 unfold pcq0C
 split
 · rename_i P px py
   intro o0
   show RdM.All _ (match po0 o0.c with | some s => _ | none => _) _
   split
   · rename_i s hm0
     intro o1
     show RdM.All _ (match serOf o1.c with | some (cl, cw, cv, k, x, y, z, w, q, n) => _ | none => _) _
     split
     · rename_i cl cw cv k x y z w q n hm1
       intro o2
       show RdM.All _ (match fltsFrom .f64 o2.c with | some (m, g) => _ | none => _) _
       split
       · rename_i m2 g hm2
         intro ho
         replace ho : m2 = 2 * n ∧ ((n ≤ 1000000 ∧ SmF g (2 * n)) ∧ (W1 x ∧ W1 y ∧ W1 z ∧ W1 w)) ∧ W1 px ∧ W1 py := ho
         obtain ⟨hsz2, ho⟩ := ho
         subst hsz2
         refine ⟨?_, _, _, (vc_pcq0 cl cw cv k x y z w q n s px py g).mpr ?_⟩
         · refine okFlag_mk rfl ⟨?_, ⟨trivial, po0_spec hm0 (by simp [sgSig, fsts, nth, sameN_self]), ⟨trivial, serOf_spec hm1 (by simp [sgSig, fsts, nth, sameN_self]), ⟨trivial, (contR_flts hm2).1, trivial⟩⟩⟩⟩
           simp [eqvRL, eqvR, fkEq_self, sgSig, fsts, nth, sameN_self]
         · generalize hv : (rcp g n (nsg cl n (wz g)) x y z w px py true).1 = r
           cases r <;> simp [ho]
       · trivial
     · trivial
   · trivial
 · trivial
noncomputable def Gpiq : Ctx := ⟨⟨tys, []⟩, [(171, conR pcq0C)]⟩
theorem gpiq : CtxOk Tryz.prog Gpiq := ⟨⟨tysOk, FlatsOk.nil⟩, GamOk.cons pcq0 GamOk.nil, by kernel_rfl⟩
noncomputable def piq0C : List SV → RdM
 | [.ptr P 0, .agg [.flt .f64 px, .flt .f64 py]] => .read P fun o0 => (match po0 o0.c with
   | some s => .read s fun o1 => (match serOf o1.c with
   | some (cl, cw, cv, k, x, y, z, w, q, n) => .read q fun o2 => (match fltsFrom .f64 o2.c with
   | some (m2, g) => .ret ⟨[.ptr 0 0, .agg [.flt .f64 px, .flt .f64 py]], [(0, ⟨false, 137, .cells [.ifc 157 (.ptr 1 0), .nils], 0⟩), (1, ⟨false, 150, serC cl cw cv k x y z w 2 n, 0⟩), (2, ⟨false, 100, .flts .f64 m2 g, 0⟩)], .bool (rcp g n (nsg cl n (wz g)) x y z w px py true).1, [], [], some (m2 = 2 * n ∧ ((n ≤ 1000000 ∧ SmF g (2 * n)) ∧ (W1 x ∧ W1 y ∧ W1 z ∧ W1 w)) ∧ W1 px ∧ W1 py)⟩
   | none => .fail)
   | none => .fail)
   | none => .fail)
 | _ => .fail
theorem vc_piq0 (cl cw cv : Bool) (k : Int) (x y z w : Nat) (_ : Nm) (n : Nat) (_ : Nm) (px py : Nat)  (g : Nat → Nat) : runA Gpiq 3 [] [] (codeOf Tryz.f168) (init Tryz.f168.ntmps [.ptr 0 0, .agg [.flt .f64 px, .flt .f64 py]] [(0, ⟨false, 137, .cells [.ifc 157 (.ptr 1 0), .nils], 0⟩), (1, ⟨false, 150, serC cl cw cv k x y z w 2 n, 0⟩), (2, ⟨false, 100, .flts .f64 (2 * n) g, 0⟩)] 3) (endK Gpiq.E.T Tryz.f168.results.toList fun S v => postP 3 ⟨[.ptr 0 0, .agg [.flt .f64 px, .flt .f64 py]], [(0, ⟨false, 137, .cells [.ifc 157 (.ptr 1 0), .nils], 0⟩), (1, ⟨false, 150, serC cl cw cv k x y z w 2 n, 0⟩), (2, ⟨false, 100, .flts .f64 (2 * n) g, 0⟩)], .bool (rcp g n (nsg cl n (wz g)) x y z w px py true).1, [], [], some (2 * n = 2 * n ∧ ((n ≤ 1000000 ∧ SmF g (2 * n)) ∧ (W1 x ∧ W1 y ∧ W1 z ∧ W1 w)) ∧ W1 px ∧ W1 py)⟩ S v) = (
(2 * n = 2 * n ∧ ((n ≤ 1000000 ∧ SmF g (2 * n)) ∧ W1 x ∧ W1 y ∧ W1 z ∧ W1 w) ∧ W1 px ∧ W1
 py) ∧ (rcp g n (nsg cl n (wz g)) x y z w px py true).1 = (rcp g n (nsg cl n (wz g)) x y z w px py true).1 ∧ True) := by kernel_rfl
theorem piq0 : ConOk Tryz.prog 168 (conR piq0C) := by
 refine con_of_vc gpiq Tryz.func168 rfl (by kernel_rfl) fun args => ?_
 unfold piq0C
 split
 · rename_i P px py
   intro o0
   show RdM.All _ (match po0 o0.c with | some s => _ | none => _) _
   split
   · rename_i s hm0
     intro o1
     show RdM.All _ (match serOf o1.c with | some (cl, cw, cv, k, x, y, z, w, q, n) => _ | none => _) _
     split
     · rename_i cl cw cv k x y z w q n hm1
       intro o2
       show RdM.All _ (match fltsFrom .f64 o2.c with | some (m, g) => _ | none => _) _
       split
       · rename_i m2 g hm2
         intro ho
         replace ho : m2 = 2 * n ∧ ((n ≤ 1000000 ∧ SmF g (2 * n)) ∧ (W1 x ∧ W1 y ∧ W1 z ∧ W1 w)) ∧ W1 px ∧ W1 py := ho
         obtain ⟨hsz2, ho⟩ := ho
         subst hsz2
         refine ⟨?_, _, _, (vc_piq0 cl cw cv k x y z w q n s px py g).mpr ?_⟩
         · refine okFlag_mk rfl ⟨?_, ⟨trivial, po0_spec hm0 (by simp [sgSig, fsts, nth, sameN_self]), ⟨trivial, serOf_spec hm1 (by simp [sgSig, fsts, nth, sameN_self]), ⟨trivial, (contR_flts hm2).1, trivial⟩⟩⟩⟩
           simp [eqvRL, eqvR, fkEq_self, sgSig, fsts, nth, sameN_self]
         · generalize hv : (rcp g n (nsg cl n (wz g)) x y z w px py true).1 = r
           cases r <;> simp [ho]
       · trivial
     · trivial
   · trivial
 · trivial
section
variable (g : Nat → Int) (n : Nat) (cl : Bool)
def rX0 : Nat := pick (ppBig n cl) (rlo (fI g) 0 n)
def rX1 : Nat := pick (ppBig n cl) (rlo (fI g) 1 n)
def rX2 : Nat := pick (ppBig n cl) (rhi (fI g) 0 n)
def rX3 : Nat := pick (ppBig n cl) (rhi (fI g) 1 n)
def pCw : Bool := ppBig n cl && fGt .f64 (cwF (fI g) n n) 0
def pCv : Bool := ppBig n cl && !(dcF (fI g) n n).2
noncomputable def nsI : Nat := nsg cl n (wz (fI g))
end
section
variable (g : Nat → Int) (n : Nat)
def PO : Prop := n ≤ 64 ∧ ∀ j, j < 2 * n → small (g j)
noncomputable def vC (h : Nat → Int) (m : Nat) (cl2 al : Bool) : Bool := rcrS (fI g) n (nsI g n true) true (pCw g n true) (pCv g n true) (rX0 g n true) (rX1 g n true) (rX2 g n true) (rX3 g n true) (fI h) m (nsI h m cl2) cl2 (rX0 h m cl2) (rX1 h m cl2) (rX2 h m cl2) (rX3 h m cl2) al
noncomputable def vIL (h : Nat → Int) (m : Nat) (al : Bool) : Bool := rilS (fI g) n (nsI g n true) true (rX0 g n true) (rX1 g n true) (rX2 g n true) (rX3 g n true) (fI h) m (nsI h m false) false (rX0 h m false) (rX1 h m false) (rX2 h m false) (rX3 h m false) al
noncomputable def vIP (h : Nat → Int) (m : Nat) (al : Bool) : Bool := rirB (emp true m) (emp true n) (mt4 (rX0 h m true) (rX1 h m true) (rX2 h m true) (rX3 h m true) (rX0 g n true) (rX1 g n true) (rX2 g n true) (rX3 g n true))
 (fGt .f64 (arF (rX0 g n true) (rX1 g n true) (rX2 g n true) (rX3 g n true)) (arF (rX0 h m true) (rX1 h m true) (rX2 h m true) (rX3 h m true)))
 (anyB (sIs (fI g) n (nsI g n true) (rX0 g n true) (rX1 g n true) (rX2 g n true) (rX3 g n true) (fI h) m al) (nsI h m true)) (anyB (sIs (fI h) m (nsI h m true) (rX0 h m true) (rX1 h m true) (rX2 h m true) (rX3 h m true) (fI g) n al) (nsI g n true))
noncomputable def vPt (x y : Int) : Bool := (rcp (fI g) n (nsI g n true) (rX0 g n true) (rX1 g n true) (rX2 g n true) (rX3 g n true) (ofI .f64 x) (ofI .f64 y) true).1
end
section
variable {g : Nat → Int} {n : Nat} (h : PO g n)
include h
theorem PO.len : n ≤ 1000000 := by have := h.1; omega
theorem PO.smF : SmF (fI g) (2 * n) := fun j hj => (w1_fI (h.2 j hj)).1
theorem PO.ppOk {cl : Bool} (hb : ppBig n cl = true) : ppOk (fI g) n := by
 have h2 : 2 ≤ n := (of_decide_eq_true hb).1
 exact ppOk_F h.1 (whl_fI h.2) h2
omit h in
theorem w1_of {x : Nat} {z : Int} (hx : FI x z) (hz : small z) : W1 x ∧ wh x = z := by
 have e := wh_FI hx
 exact ⟨⟨by rw [e]; exact hx, by rw [e]; exact hz⟩, e⟩
theorem PO.lo {k : Nat} (hk : k < 2) (h0 : 0 < n) : W1 (rlo (fI g) k n) ∧ wh (rlo (fI g) k n) = loZ g k n := by
 refine w1_of (lo_F (whl_fI h.2) hk n (Nat.le_refl _)).1 ?_
 obtain ⟨j, hj, e⟩ := loZ_at (z := g) (k := k) h0
 rw [e]
 exact h.2 _ (by omega)
theorem PO.hi {k : Nat} (hk : k < 2) (h0 : 0 < n) : W1 (rhi (fI g) k n) ∧ wh (rhi (fI g) k n) = hiZ g k n := by
 refine w1_of (hi_F (whl_fI h.2) hk n (Nat.le_refl _)).1 ?_
 obtain ⟨j, hj, e⟩ := hiZ_at (z := g) (k := k) h0
 rw [e]
 exact h.2 _ (by omega)
theorem PO.w4 {cl : Bool} : W1 (rX0 g n cl) ∧ W1 (rX1 g n cl) ∧ W1 (rX2 g n cl) ∧ W1 (rX3 g n cl) := by
 unfold rX0 rX1 rX2 rX3 pick
 split
 · rename_i hb
   have h2 : 2 ≤ n := (of_decide_eq_true hb).1
   exact ⟨(h.lo (by decide) (by omega)).1, (h.lo (by decide) (by omega)).1, (h.hi (by decide) (by omega)).1, (h.hi (by decide) (by omega)).1⟩
 · exact ⟨w1_zero.1, w1_zero.1, w1_zero.1, w1_zero.1⟩
theorem PO.ob {cl : Bool} : (n ≤ 1000000 ∧ SmF (fI g) (2 * n)) ∧ (W1 (rX0 g n cl) ∧ W1 (rX1 g n cl) ∧ W1 (rX2 g n cl) ∧ W1 (rX3 g n cl)) := ⟨⟨h.len, h.smF⟩, h.w4⟩
end
def noHole : List SV → Bool
 | [.agg [_, _, .nils], _] => true
 | _ => false
noncomputable def G39L0 : Ctx := ⟨⟨tys, []⟩, [(64, conR optsC), (63, conR shaped30C), (74, conR ptsC), (73, conR newLineC), (237, conR pcl0C), (233, conR pil0C)]⟩
theorem g39L0 : CtxOk Tryz.prog G39L0 := ⟨⟨tysOk, FlatsOk.nil⟩, GamOk.cons opts (GamOk.cons shaped30 (GamOk.cons pts (GamOk.cons newLine (GamOk.cons pcl0 (GamOk.cons pil0 GamOk.nil))))), by kernel_rfl⟩
noncomputable def G39L1 : Ctx := ⟨⟨tys, []⟩, [(64, conR optsC), (63, conR shaped31C), (74, conR ptsC), (73, conR newLineC), (237, conR pcl1C), (233, conR pil1C)]⟩
theorem g39L1 : CtxOk Tryz.prog G39L1 := ⟨⟨tysOk, FlatsOk.nil⟩, GamOk.cons opts (GamOk.cons shaped31 (GamOk.cons pts (GamOk.cons newLine (GamOk.cons pcl1 (GamOk.cons pil1 GamOk.nil))))), by kernel_rfl⟩
noncomputable def G39P0 : Ctx := ⟨⟨tys, []⟩, [(64, conR optsC), (63, conR shaped30C), (238, conR pcp0C), (208, conR pip0C)]⟩
theorem g39P0 : CtxOk Tryz.prog G39P0 := ⟨⟨tysOk, FlatsOk.nil⟩, GamOk.cons opts (GamOk.cons shaped30 (GamOk.cons pcp0 (GamOk.cons pip0 GamOk.nil))), by kernel_rfl⟩
noncomputable def G39P1 : Ctx := ⟨⟨tys, []⟩, [(64, conR optsC), (63, swC noHole (conR shaped30C) (conR shaped31C)), (238, conR pcp1C), (208, conR pip1C)]⟩
theorem g39P1 : CtxOk Tryz.prog G39P1 := ⟨⟨tysOk, FlatsOk.nil⟩, GamOk.cons opts (GamOk.cons (ConOk.sw shaped30 shaped31) (GamOk.cons pcp1 (GamOk.cons pip1 GamOk.nil))), by kernel_rfl⟩
noncomputable def G39T0 : Ctx := ⟨⟨tys, []⟩, [(64, conR optsC), (63, conR shaped30C), (72, conR cornerC), (75, pureCon ptF), (171, conR pcq0C), (168, conR piq0C)]⟩
theorem g39T0 : CtxOk Tryz.prog G39T0 := ⟨⟨tysOk, FlatsOk.nil⟩, GamOk.cons opts (GamOk.cons shaped30 (GamOk.cons corner (GamOk.cons (.pure pt) (GamOk.cons pcq0 (GamOk.cons piq0 GamOk.nil))))), by kernel_rfl⟩
noncomputable def asLn0C : List SV → RdM
 | [.agg [.int .i64 3, .slcc n len, .nils], .agg [.int .i64 2, .slcc m ll, .nils], .int .i64 0, .int .i64 0] => .read n fun o0 => (match intsFrom .i64 o0.c with
   | some (m0, g) => .read m fun o1 => (match intsFrom .i64 o1.c with
   | some (m1, gl) => .ret ⟨[.agg [.int .i64 3, .slcc 0 len, .nils], .agg [.int .i64 2, .slcc 1 ll, .nils], .int .i64 0, .int .i64 0], [(0, ⟨false, 23, .ints .i64 m0 g, 0⟩), (1, ⟨false, 23, .ints .i64 m1 gl, 0⟩)], .tup [.bool (vC g len gl ll false true), .bool (vIL g len gl ll true)], [], [], some (m0 = 2 * len ∧ m1 = 2 * ll ∧ PO g len ∧ PO gl ll)⟩
   | none => .fail)
   | none => .fail)
 | _ => .fail
theorem vc_asLn0 (len ll : Nat)  (g : Nat → Int) (gl : Nat → Int) : runA G39L0 2 [] [] (codeOf Tryz.f39) (init Tryz.f39.ntmps [.agg [.int .i64 3, .slcc 0 len, .nils], .agg [.int .i64 2, .slcc 1 ll, .nils], .int .i64 0, .int .i64 0] [(0, ⟨false, 23, .ints .i64 (2 * len) g, 0⟩), (1, ⟨false, 23, .ints .i64 (2 * ll) gl, 0⟩)] 2) (endK G39L0.E.T Tryz.f39.results.toList fun S v => postP 2 ⟨[.agg [.int .i64 3, .slcc 0 len, .nils], .agg [.int .i64 2, .slcc 1 ll, .nils], .int .i64 0, .int .i64 0], [(0, ⟨false, 23, .ints .i64 (2 * len) g, 0⟩), (1, ⟨false, 23, .ints .i64 (2 * ll) gl, 0⟩)], .tup [.bool (vC g len gl ll false true), .bool (vIL g len gl ll true)], [], [], some (2 * len = 2 * len ∧ 2 * ll = 2 * ll ∧ PO g len ∧ PO gl ll)⟩ S v) = (
 True ∧ (2 * len = 2 * len ∧ (0 : Int) = 0 ∧ len ≤ 1000000 ∧ (ppBig len true = true → ppOk (fI g) len)) ∧ (false = true → False) ∧ (false = false → (true = true →
(2 * ll = 2 * ll ∧ ll ≤ 1000000) ∧ (2 * ll = 2 * ll ∧ (0 : Int) = 0 ∧ ll ≤ 1000000 ∧ (ppBig ll false = true → ppOk (fI gl) ll)) ∧ (2
* len = 2 * len ∧ 2 * ll = 2 * ll ∧ ((len ≤ 1000000 ∧ SmF (fI g) (2 * len)) ∧ W1 (pick (ppBig len true)
(rlo (fI g) 0 len)) ∧ W1 (pick (ppBig len true) (rlo (fI g) 1 len)) ∧ W1
(pick (ppBig len true) (rhi (fI g) 0 len)) ∧ W1 (pick (ppBig len true) (rhi (fI
 g) 1 len))) ∧ (ll ≤ 1000000 ∧ SmF (fI gl) (2 * ll)) ∧ W1 (pick (ppBig ll false) (rlo (fI gl) 0 ll)) ∧ W1 (pick (ppBig ll false) (rlo (fI gl) 1 ll)) ∧ W1 (pick (ppBig ll false)
(rhi (fI gl) 0 ll)) ∧ W1 (pick (ppBig ll false) (rhi (fI gl) 1 ll))) ∧ (2 * len = 2 * len ∧
2 * ll = 2 * ll ∧ ((len ≤ 1000000 ∧ SmF (fI g) (2 * len)) ∧ W1 (pick (ppBig len true) (rlo
(fI g) 0 len)) ∧ W1 (pick (ppBig len true) (rlo (fI g) 1 len)) ∧ W1 (pick
(ppBig len true) (rhi (fI g) 0 len)) ∧ W1 (pick (ppBig len true) (rhi (fI g) 1 len))) ∧
(ll ≤ 1000000 ∧ SmF (fI gl) (2 * ll)) ∧ W1 (pick (ppBig ll false) (rlo (fI gl) 0 ll)) ∧
 W1 (pick (ppBig ll false) (rlo (fI gl) 1 ll)) ∧ W1 (pick (ppBig ll false) (rhi
(fI gl) 0 ll)) ∧ W1 (pick (ppBig ll false) (rhi (fI gl) 1 ll))) ∧ (rcrS (fI g) len
(nsg true len (wz (fI g))) true (ppBig len true && fGt .f64 (cwF (fI g) len len) 0) (ppBig len true &&
!(dcF (fI g) len len).2) (pick (ppBig len true) (rlo (fI g) 0 len)) (pick (ppBig len true)
(rlo (fI g) 1 len)) (pick (ppBig len true) (rhi (fI g) 0 len)) (pick (ppBig len true)
(rhi (fI g) 1 len)) (fI gl) ll (nsg false ll (wz (fI gl))) false (pick (ppBig ll false)
(rlo (fI gl) 0 ll)) (pick (ppBig ll false) (rlo (fI gl) 1 ll)) (pick (ppBig ll false)
(rhi (fI gl) 0 ll)) (pick (ppBig ll false) (rhi (fI gl) 1 ll)) true = vC g len gl ll false true ∧
 rilS (fI g) len (nsg true len (wz (fI g))) true (pick (ppBig len true) (rlo (fI g) 0 len)) (pick (ppBig len true) (rlo (fI g) 1 len)) (pick (ppBig len true) (rhi (fI g) 0
 len)) (pick (ppBig len true) (rhi (fI g) 1 len)) (fI gl) ll (nsg false ll (wz (fI gl))) false
(pick (ppBig ll false) (rlo (fI gl) 0 ll)) (pick (ppBig ll false) (rlo (fI gl) 1 ll))
(pick (ppBig ll false) (rhi (fI gl) 0 ll)) (pick (ppBig ll false) (rhi (fI gl) 1 ll)) true
= vIL g len gl ll true ∧ True) ∧ True) ∧ (true = false → (false = true → False) ∧ (false = false → False)))) := by kernel_rfl
theorem asLn0 : ConOk Tryz.prog 39 (conR asLn0C) := by
 refine con_of_vc g39L0 Tryz.func39 rfl (by kernel_rfl) fun args => ?_
 unfold asLn0C
 split
 · rename_i n len m ll
   intro o0
   show RdM.All _ (match intsFrom .i64 o0.c with | some (m, g) => _ | none => _) _
   split
   · rename_i m0 g hm0
     intro o1
     show RdM.All _ (match intsFrom .i64 o1.c with | some (m, g) => _ | none => _) _
     split
     · rename_i m1 gl hm1
       intro ho
       replace ho : m0 = 2 * len ∧ m1 = 2 * ll ∧ PO g len ∧ PO gl ll := ho
       obtain ⟨hsz0, hsz1, ho⟩ := ho
       subst hsz0
       subst hsz1
       refine ⟨?_, _, _, (vc_asLn0 len ll g gl).mpr ?_⟩
       · refine okFlag_mk rfl ⟨?_, ⟨trivial, (contR_ints hm0).1, ⟨trivial, (contR_ints hm1).1, trivial⟩⟩⟩
         simp [eqvRL, eqvR, kEq_self, sgSig, fsts, nth, sameN_self]
       · obtain ⟨h1, h2⟩ := ho
         simp only [true_and, and_true, eq_self, true_implies]
         simp only [Bool.false_eq_true, Bool.true_eq_false, false_implies, true_and, and_true]
         exact ⟨⟨h1.len, fun hb => h1.ppOk hb⟩, h2.len, ⟨h2.len, fun hb => h2.ppOk hb⟩, ⟨h1.ob, h2.ob⟩, ⟨h1.ob, h2.ob⟩, rfl, rfl⟩
     · trivial
   · trivial
 · trivial
noncomputable def asPo0C : List SV → RdM
 | [.agg [.int .i64 3, .slcc n len, .nils], .agg [.int .i64 3, .slcc m ll, .nils], .int .i64 0, .int .i64 0] => .read n fun o0 => (match intsFrom .i64 o0.c with
   | some (m0, g) => .read m fun o1 => (match intsFrom .i64 o1.c with
   | some (m1, gl) => .ret ⟨[.agg [.int .i64 3, .slcc 0 len, .nils], .agg [.int .i64 3, .slcc 1 ll, .nils], .int .i64 0, .int .i64 0], [(0, ⟨false, 23, .ints .i64 m0 g, 0⟩), (1, ⟨false, 23, .ints .i64 m1 gl, 0⟩)], .tup [.bool (vC g len gl ll true true), .bool (vIP g len gl ll true)], [], [], some (m0 = 2 * len ∧ m1 = 2 * ll ∧ PO g len ∧ PO gl ll)⟩
   | none => .fail)
   | none => .fail)
 | _ => .fail
theorem vc_asPo0 (len ll : Nat)  (g : Nat → Int) (gl : Nat → Int) : runA G39P0 2 [] [] (codeOf Tryz.f39) (init Tryz.f39.ntmps [.agg [.int .i64 3, .slcc 0 len, .nils], .agg [.int .i64 3, .slcc 1 ll, .nils], .int .i64 0, .int .i64 0] [(0, ⟨false, 23, .ints .i64 (2 * len) g, 0⟩), (1, ⟨false, 23, .ints .i64 (2 * ll) gl, 0⟩)] 2) (endK G39P0.E.T Tryz.f39.results.toList fun S v => postP 2 ⟨[.agg [.int .i64 3, .slcc 0 len, .nils], .agg [.int .i64 3, .slcc 1 ll, .nils], .int .i64 0, .int .i64 0], [(0, ⟨false, 23, .ints .i64 (2 * len) g, 0⟩), (1, ⟨false, 23, .ints .i64 (2 * ll) gl, 0⟩)], .tup [.bool (vC g len gl ll true true), .bool (vIP g len gl ll true)], [], [], some (2 * len = 2 * len ∧ 2 * ll = 2 * ll ∧ PO g len ∧ PO gl ll)⟩ S v) = (
 True ∧ (2 * len = 2 * len ∧ (0 : Int) = 0 ∧ len ≤ 1000000 ∧ (ppBig len true = true → ppOk (fI g) len)) ∧ (false = true → False) ∧ (false = false → (false = true →
 False) ∧ (false = false → (true = true → (2 * ll = 2 * ll ∧ (0 : Int) = 0 ∧ ll ≤ 1000000 ∧ (ppBig ll true = true → ppOk (fI gl) ll)) ∧ (2 * len = 2
* len ∧ 2 * ll = 2 * ll ∧ ((len ≤ 1000000 ∧ SmF (fI g) (2 * len)) ∧ W1 (pick (ppBig len true) (rlo
(fI g) 0 len)) ∧ W1 (pick (ppBig len true) (rlo (fI g) 1 len)) ∧ W1 (pick
(ppBig len true) (rhi (fI g) 0 len)) ∧ W1 (pick (ppBig len true) (rhi (fI g) 1 len))) ∧
(ll ≤ 1000000 ∧ SmF (fI gl) (2 * ll)) ∧ W1 (pick (ppBig ll true) (rlo (fI gl) 0 ll)) ∧
 W1 (pick (ppBig ll true) (rlo (fI gl) 1 ll)) ∧ W1 (pick (ppBig ll true) (rhi
(fI gl) 0 ll)) ∧ W1 (pick (ppBig ll true) (rhi (fI gl) 1 ll))) ∧ (2 * len = 2 * len ∧ 2 * ll = 2 * ll ∧ ((len ≤ 1000000 ∧ SmF (fI g) (2 * len)) ∧ W1 (pick (ppBig len true) (rlo (fI g) 0 len))
∧ W1 (pick (ppBig len true) (rlo (fI g) 1 len)) ∧ W1 (pick (ppBig len true) (rhi
(fI g) 0 len)) ∧ W1 (pick (ppBig len true) (rhi (fI g) 1 len))) ∧ (ll ≤ 1000000 ∧ SmF
(fI gl) (2 * ll)) ∧ W1 (pick (ppBig ll true) (rlo (fI gl) 0 ll)) ∧ W1 (pick
(ppBig ll true) (rlo (fI gl) 1 ll)) ∧ W1 (pick (ppBig ll true) (rhi (fI gl) 0 ll)) ∧
 W1 (pick (ppBig ll true) (rhi (fI gl) 1 ll))) ∧ (rcrS (fI g) len (nsg true len
(wz (fI g))) true (ppBig len true && fGt .f64 (cwF (fI g) len len) 0) (ppBig len true && !(dcF
(fI g) len len).2) (pick (ppBig len true) (rlo (fI g) 0 len)) (pick (ppBig len true) (rlo
(fI g) 1 len)) (pick (ppBig len true) (rhi (fI g) 0 len)) (pick (ppBig len true) (rhi
(fI g) 1 len)) (fI gl) ll (nsg true ll (wz (fI gl))) true (pick (ppBig ll true) (rlo
(fI gl) 0 ll)) (pick (ppBig ll true) (rlo (fI gl) 1 ll)) (pick (ppBig ll true) (rhi
(fI gl) 0 ll)) (pick (ppBig ll true) (rhi (fI gl) 1 ll)) true = vC g len gl ll true true ∧ rirB
(emp true ll) (emp true len) (mt4 (pick (ppBig ll true) (rlo (fI gl) 0 ll)) (pick
(ppBig ll true) (rlo (fI gl) 1 ll)) (pick (ppBig ll true) (rhi (fI gl) 0 ll)) (pick
(ppBig ll true) (rhi (fI gl) 1 ll)) (pick (ppBig len true) (rlo (fI g) 0 len)) (pick
(ppBig len true) (rlo (fI g) 1 len)) (pick (ppBig len true) (rhi (fI g) 0 len)) (pick
(ppBig len true) (rhi (fI g) 1 len))) (fGt .f64 (arF (pick (ppBig len true) (rlo (fI g) 0 len)) (pick (ppBig len true) (rlo (fI g) 1 len)) (pick (ppBig len true) (rhi (fI g) 0
 len)) (pick (ppBig len true) (rhi (fI g) 1 len))) (arF (pick (ppBig ll true) (rlo
(fI gl) 0 ll)) (pick (ppBig ll true) (rlo (fI gl) 1 ll)) (pick (ppBig ll true) (rhi
(fI gl) 0 ll)) (pick (ppBig ll true) (rhi (fI gl) 1 ll)))) (anyB (sIs (fI g) len
(nsg true len (wz (fI g))) (pick (ppBig len true) (rlo (fI g) 0 len)) (pick
(ppBig len true) (rlo (fI g) 1 len)) (pick (ppBig len true) (rhi (fI g) 0 len)) (pick
(ppBig len true) (rhi (fI g) 1 len)) (fI gl) ll true) (nsg true ll (wz (fI gl)))) (anyB
(sIs (fI gl) ll (nsg true ll (wz (fI gl))) (pick (ppBig ll true) (rlo (fI gl) 0
 ll)) (pick (ppBig ll true) (rlo (fI gl) 1 ll)) (pick (ppBig ll true) (rhi (fI gl) 0 ll))
(pick (ppBig ll true) (rhi (fI gl) 1 ll)) (fI g) len true) (nsg true len (wz (fI g)))) =
 vIP g len gl ll true ∧ True) ∧ True) ∧ (true = false → False)))) := by kernel_rfl
theorem asPo0 : ConOk Tryz.prog 39 (conR asPo0C) := by
 refine con_of_vc g39P0 Tryz.func39 rfl (by kernel_rfl) fun args => ?_
 unfold asPo0C
 split
 · rename_i n len m ll
   intro o0
   show RdM.All _ (match intsFrom .i64 o0.c with | some (m, g) => _ | none => _) _
   split
   · rename_i m0 g hm0
     intro o1
     show RdM.All _ (match intsFrom .i64 o1.c with | some (m, g) => _ | none => _) _
     split
     · rename_i m1 gl hm1
       intro ho
       replace ho : m0 = 2 * len ∧ m1 = 2 * ll ∧ PO g len ∧ PO gl ll := ho
       obtain ⟨hsz0, hsz1, ho⟩ := ho
       subst hsz0
       subst hsz1
       refine ⟨?_, _, _, (vc_asPo0 len ll g gl).mpr ?_⟩
       · refine okFlag_mk rfl ⟨?_, ⟨trivial, (contR_ints hm0).1, ⟨trivial, (contR_ints hm1).1, trivial⟩⟩⟩
         simp [eqvRL, eqvR, kEq_self, sgSig, fsts, nth, sameN_self]
       · obtain ⟨h1, h2⟩ := ho
         simp only [true_and, and_true, eq_self, true_implies]
         simp only [Bool.false_eq_true, Bool.true_eq_false, false_implies, true_and, and_true]
         exact ⟨⟨h1.len, fun hb => h1.ppOk hb⟩, ⟨h2.len, fun hb => h2.ppOk hb⟩, ⟨h1.ob, h2.ob⟩, ⟨h1.ob, h2.ob⟩, rfl, rfl⟩
     · trivial
   · trivial
 · trivial
noncomputable def asPt0C : List SV → RdM
 | [.agg [.int .i64 3, .slcc n len, .nils], .agg [.int .i64 0, .slcc m 1, .nils], .int .i64 0, .int .i64 0] => .read n fun o0 => (match intsFrom .i64 o0.c with
   | some (m0, g) => .read m fun o1 => (match intsFrom .i64 o1.c with
   | some (m1, gl) => .ret ⟨[.agg [.int .i64 3, .slcc 0 len, .nils], .agg [.int .i64 0, .slcc 1 1, .nils], .int .i64 0, .int .i64 0], [(0, ⟨false, 23, .ints .i64 m0 g, 0⟩), (1, ⟨false, 23, .ints .i64 m1 gl, 0⟩)], .tup [.bool (vPt g len (gl 0) (gl 1)), .bool (vPt g len (gl 0) (gl 1))], [], [], some (m0 = 2 * len ∧ m1 = 2 ∧ PO g len ∧ small (gl 0) ∧ small (gl 1))⟩
   | none => .fail)
   | none => .fail)
 | _ => .fail
theorem vc_asPt0 (len : Nat)  (g : Nat → Int) (gl : Nat → Int) : runA G39T0 2 [] [] (codeOf Tryz.f39) (init Tryz.f39.ntmps [.agg [.int .i64 3, .slcc 0 len, .nils], .agg [.int .i64 0, .slcc 1 1, .nils], .int .i64 0, .int .i64 0] [(0, ⟨false, 23, .ints .i64 (2 * len) g, 0⟩), (1, ⟨false, 23, .ints .i64 (2) gl, 0⟩)] 2) (endK G39T0.E.T Tryz.f39.results.toList fun S v => postP 2 ⟨[.agg [.int .i64 3, .slcc 0 len, .nils], .agg [.int .i64 0, .slcc 1 1, .nils], .int .i64 0, .int .i64 0], [(0, ⟨false, 23, .ints .i64 (2 * len) g, 0⟩), (1, ⟨false, 23, .ints .i64 (2) gl, 0⟩)], .tup [.bool (vPt g len (gl 0) (gl 1)), .bool (vPt g len (gl 0) (gl 1))], [], [], some (2 * len = 2 * len ∧ 2 = 2 ∧ PO g len ∧ small (gl 0) ∧ small (gl 1))⟩ S v) = (
 True ∧ (2 * len = 2 * len ∧ (0 : Int) = 0 ∧ len ≤ 1000000 ∧ (ppBig len true = true → ppOk (fI g) len)) ∧ (false = true → False) ∧ (false = false → (false = true →
 False) ∧ (false = false → (false = true → False) ∧ (false = false → (2 = 2 ∧ (0 : Int) ≤ 0) ∧ (2 * len = 2 * len ∧ ((len ≤ 1000000 ∧ SmF (fI g) (2 * len)) ∧
 W1 (pick (ppBig len true) (rlo (fI g) 0 len)) ∧ W1 (pick (ppBig len true) (rlo
(fI g) 1 len)) ∧ W1 (pick (ppBig len true) (rhi (fI g) 0 len)) ∧ W1 (pick
(ppBig len true) (rhi (fI g) 1 len))) ∧ W1 (ofI .f64 (crn gl 1 (0 : Int) 0)) ∧ W1 (ofI .f64
(crn gl 1 (0 : Int) 1))) ∧ (2 * len = 2 * len ∧ ((len ≤ 1000000 ∧ SmF (fI g) (2 * len)) ∧ W1 (pick
(ppBig len true) (rlo (fI g) 0 len)) ∧ W1 (pick (ppBig len true) (rlo (fI g) 1 len)) ∧
 W1 (pick (ppBig len true) (rhi (fI g) 0 len)) ∧ W1 (pick (ppBig len true) (rhi
(fI g) 1 len))) ∧ W1 (ofI .f64 (crn gl 1 (0 : Int) 0)) ∧ W1 (ofI .f64 (crn gl 1 (0 : Int) 1))) ∧ true = true
∧ ((rcp (fI g) len (nsg true len (wz (fI g))) (pick (ppBig len true) (rlo (fI
 g) 0 len)) (pick (ppBig len true) (rlo (fI g) 1 len)) (pick (ppBig len true) (rhi (fI g)
0 len)) (pick (ppBig len true) (rhi (fI g) 1 len)) (ofI .f64 (crn gl 1 (0 : Int) 0)) (ofI .f64
(crn gl 1 (0 : Int) 1)) true).1 = vPt g len (gl 0) (gl 1) ∧ (rcp (fI g) len (nsg true len (wz
(fI g))) (pick (ppBig len true) (rlo (fI g) 0 len)) (pick (ppBig len true) (rlo
(fI g) 1 len)) (pick (ppBig len true) (rhi (fI g) 0 len)) (pick (ppBig len true) (rhi
(fI g) 1 len)) (ofI .f64 (crn gl 1 (0 : Int) 0)) (ofI .f64 (crn gl 1 (0 : Int) 1)) true).1 = vPt g len (gl 0) (gl 1) ∧ True) ∧ True)))) := by kernel_rfl
theorem asPt0 : ConOk Tryz.prog 39 (conR asPt0C) := by
 refine con_of_vc g39T0 Tryz.func39 rfl (by kernel_rfl) fun args => ?_
 unfold asPt0C
 split
 · rename_i n len m
   intro o0
   show RdM.All _ (match intsFrom .i64 o0.c with | some (m, g) => _ | none => _) _
   split
   · rename_i m0 g hm0
     intro o1
     show RdM.All _ (match intsFrom .i64 o1.c with | some (m, g) => _ | none => _) _
     split
     · rename_i m1 gl hm1
       intro ho
       replace ho : m0 = 2 * len ∧ m1 = 2 ∧ PO g len ∧ small (gl 0) ∧ small (gl 1) := ho
       obtain ⟨hsz0, hsz1, ho⟩ := ho
       subst hsz0
       subst hsz1
       refine ⟨?_, _, _, (vc_asPt0 len g gl).mpr ?_⟩
       · refine okFlag_mk rfl ⟨?_, ⟨trivial, (contR_ints hm0).1, ⟨trivial, (contR_ints hm1).1, trivial⟩⟩⟩
         simp [eqvRL, eqvR, kEq_self, sgSig, fsts, nth, sameN_self]
       · obtain ⟨h1, h2⟩ := ho
         simp only [true_and, and_true, eq_self, true_implies]
         have c0 : crn gl 1 0 0 = gl 0 := rfl
         have c1 : crn gl 1 0 1 = gl 1 := rfl
         simp only [c0, c1, Bool.false_eq_true, false_implies, true_and]
         exact ⟨⟨h1.len, fun hb => h1.ppOk hb⟩, by decide, ⟨h1.ob, (w1_fI h2.1).1, (w1_fI h2.2).1⟩, ⟨h1.ob, (w1_fI h2.1).1, (w1_fI h2.2).1⟩, rfl, rfl⟩
     · trivial
   · trivial
 · trivial
noncomputable def asLn1C : List SV → RdM
 | [.agg [.int .i64 3, .slcc n len, .slcc h 1], .agg [.int .i64 2, .slcc m ll, .nils], .int .i64 0, .int .i64 0] => .read n fun o0 => (match intsFrom .i64 o0.c with
   | some (m0, g) => .read h fun o1 => (match holOf o1.c with
   | some (q, hl) => .read q fun o2 => (match intsFrom .i64 o2.c with
   | some (m2, gh) => .read m fun o3 => (match intsFrom .i64 o3.c with
   | some (m3, gl) => .ret ⟨[.agg [.int .i64 3, .slcc 0 len, .slcc 1 1], .agg [.int .i64 2, .slcc 3 ll, .nils], .int .i64 0, .int .i64 0], [(0, ⟨false, 23, .ints .i64 m0 g, 0⟩), (1, ⟨false, 25, .cells [.slcc 2 hl], 0⟩), (2, ⟨false, 23, .ints .i64 m2 gh, 0⟩), (3, ⟨false, 23, .ints .i64 m3 gl, 0⟩)], .tup [.bool (vC g len gl ll false true && !(vIL gh hl gl ll false)), .bool (vIL g len gl ll true && !(vC gh hl gl ll false false))], [], [], some (m0 = 2 * len ∧ m2 = 2 * hl ∧ m3 = 2 * ll ∧ PO g len ∧ PO gh hl ∧ PO gl ll)⟩
   | none => .fail)
   | none => .fail)
   | none => .fail)
   | none => .fail)
 | _ => .fail
theorem vc_asLn1 (len hl ll : Nat) (_ : Nm)  (g : Nat → Int) (gh : Nat → Int) (gl : Nat → Int) : runA G39L1 4 [] [] (codeOf Tryz.f39) (init Tryz.f39.ntmps [.agg [.int .i64 3, .slcc 0 len, .slcc 1 1], .agg [.int .i64 2, .slcc 3 ll, .nils], .int .i64 0, .int .i64 0] [(0, ⟨false, 23, .ints .i64 (2 * len) g, 0⟩), (1, ⟨false, 25, .cells [.slcc 2 hl], 0⟩), (2, ⟨false, 23, .ints .i64 (2 * hl) gh, 0⟩), (3, ⟨false, 23, .ints .i64 (2 * ll) gl, 0⟩)] 4) (endK G39L1.E.T Tryz.f39.results.toList fun S v => postP 4 ⟨[.agg [.int .i64 3, .slcc 0 len, .slcc 1 1], .agg [.int .i64 2, .slcc 3 ll, .nils], .int .i64 0, .int .i64 0], [(0, ⟨false, 23, .ints .i64 (2 * len) g, 0⟩), (1, ⟨false, 25, .cells [.slcc 2 hl], 0⟩), (2, ⟨false, 23, .ints .i64 (2 * hl) gh, 0⟩), (3, ⟨false, 23, .ints .i64 (2 * ll) gl, 0⟩)], .tup [.bool (vC g len gl ll false true && !(vIL gh hl gl ll false)), .bool (vIL g len gl ll true && !(vC gh hl gl ll false false))], [], [], some (2 * len = 2 * len ∧ 2 * hl = 2 * hl ∧ 2 * ll = 2 * ll ∧ PO g len ∧ PO gh hl ∧ PO gl ll)⟩ S v) = (
 True ∧ (2 * len = 2 * len ∧ 2 * hl = 2 * hl ∧ (0 : Int) = 0 ∧ (len ≤ 1000000 ∧ (ppBig len true = true → ppOk (fI g) len)) ∧ hl ≤ 1000000 ∧
(ppBig hl true = true → ppOk (fI gh) hl)) ∧ (false = true → False) ∧ (false = false → (true = true → (2 * ll = 2 * ll ∧ ll ≤ 1000000) ∧ (2 * ll = 2 * ll ∧
(0 : Int) = 0 ∧ ll ≤ 1000000 ∧ (ppBig ll false = true → ppOk (fI gl) ll)) ∧ (2 * len = 2 * len ∧ 2 * hl = 2 * hl ∧ 2 * ll = 2 * ll ∧
((len ≤ 1000000 ∧ SmF (fI g) (2 * len)) ∧ W1 (pick (ppBig len true) (rlo (fI g) 0 len)) ∧
 W1 (pick (ppBig len true) (rlo (fI g) 1 len)) ∧ W1 (pick (ppBig len true) (rhi
(fI g) 0 len)) ∧ W1 (pick (ppBig len true) (rhi (fI g) 1 len))) ∧ ((hl ≤ 1000000 ∧ SmF
(fI gh) (2 * hl)) ∧ W1 (pick (ppBig hl true) (rlo (fI gh) 0 hl)) ∧ W1 (pick
(ppBig hl true) (rlo (fI gh) 1 hl)) ∧ W1 (pick (ppBig hl true) (rhi (fI gh) 0 hl)) ∧
 W1 (pick (ppBig hl true) (rhi (fI gh) 1 hl))) ∧ (ll ≤ 1000000 ∧ SmF (fI gl) (2 * ll)) ∧
 W1 (pick (ppBig ll false) (rlo (fI gl) 0 ll)) ∧ W1 (pick (ppBig ll false) (rlo
(fI gl) 1 ll)) ∧ W1 (pick (ppBig ll false) (rhi (fI gl) 0 ll)) ∧ W1 (pick
(ppBig ll false) (rhi (fI gl) 1 ll))) ∧ (2 * len = 2 * len ∧ 2 * hl = 2 * hl ∧ 2 * ll = 2 * ll ∧ ((len ≤ 1000000 ∧
 SmF (fI g) (2 * len)) ∧ W1 (pick (ppBig len true) (rlo (fI g) 0 len)) ∧ W1
(pick (ppBig len true) (rlo (fI g) 1 len)) ∧ W1 (pick (ppBig len true) (rhi (fI
 g) 0 len)) ∧ W1 (pick (ppBig len true) (rhi (fI g) 1 len))) ∧ ((hl ≤ 1000000 ∧ SmF (fI gh) (2 * hl)) ∧ W1 (pick (ppBig hl true) (rlo (fI gh) 0 hl)) ∧ W1 (pick (ppBig hl true)
(rlo (fI gh) 1 hl)) ∧ W1 (pick (ppBig hl true) (rhi (fI gh) 0 hl)) ∧ W1
(pick (ppBig hl true) (rhi (fI gh) 1 hl))) ∧ (ll ≤ 1000000 ∧ SmF (fI gl) (2 * ll)) ∧ W1
(pick (ppBig ll false) (rlo (fI gl) 0 ll)) ∧ W1 (pick (ppBig ll false) (rlo (fI
 gl) 1 ll)) ∧ W1 (pick (ppBig ll false) (rhi (fI gl) 0 ll)) ∧ W1 (pick (ppBig ll false)
(rhi (fI gl) 1 ll))) ∧ ((rcrS (fI g) len (nsg true len (wz (fI g))) true (ppBig len true &&
 fGt .f64 (cwF (fI g) len len) 0) (ppBig len true && !(dcF (fI g) len len).2) (pick (ppBig len true)
(rlo (fI g) 0 len)) (pick (ppBig len true) (rlo (fI g) 1 len)) (pick (ppBig len true)
(rhi (fI g) 0 len)) (pick (ppBig len true) (rhi (fI g) 1 len)) (fI gl) ll (nsg false ll
(wz (fI gl))) false (pick (ppBig ll false) (rlo (fI gl) 0 ll)) (pick (ppBig ll false)
(rlo (fI gl) 1 ll)) (pick (ppBig ll false) (rhi (fI gl) 0 ll)) (pick (ppBig ll false)
(rhi (fI gl) 1 ll)) true && !rilS (fI gh) hl (nsg true hl (wz (fI gh))) true (pick
(ppBig hl true) (rlo (fI gh) 0 hl)) (pick (ppBig hl true) (rlo (fI gh) 1 hl)) (pick
(ppBig hl true) (rhi (fI gh) 0 hl)) (pick (ppBig hl true) (rhi (fI gh) 1 hl)) (fI gl) ll
(nsg false ll (wz (fI gl))) false (pick (ppBig ll false) (rlo (fI gl) 0 ll)) (pick
(ppBig ll false) (rlo (fI gl) 1 ll)) (pick (ppBig ll false) (rhi (fI gl) 0 ll)) (pick
(ppBig ll false) (rhi (fI gl) 1 ll)) false) = (vC g len gl ll false true && !vIL gh hl gl ll false) ∧ (rilS (fI g)
 len (nsg true len (wz (fI g))) true (pick (ppBig len true) (rlo (fI g) 0 len)) (pick
(ppBig len true) (rlo (fI g) 1 len)) (pick (ppBig len true) (rhi (fI g) 0 len)) (pick
(ppBig len true) (rhi (fI g) 1 len)) (fI gl) ll (nsg false ll (wz (fI gl))) false (pick
(ppBig ll false) (rlo (fI gl) 0 ll)) (pick (ppBig ll false) (rlo (fI gl) 1 ll)) (pick
(ppBig ll false) (rhi (fI gl) 0 ll)) (pick (ppBig ll false) (rhi (fI gl) 1 ll)) true &&
!rcrS (fI gh) hl (nsg true hl (wz (fI gh))) true (ppBig hl true && fGt .f64 (cwF (fI gh) hl hl) 0) (ppBig hl true && !(dcF (fI gh) hl hl).2) (pick (ppBig hl true) (rlo (fI gh) 0 hl))
(pick (ppBig hl true) (rlo (fI gh) 1 hl)) (pick (ppBig hl true) (rhi (fI gh) 0 hl))
(pick (ppBig hl true) (rhi (fI gh) 1 hl)) (fI gl) ll (nsg false ll (wz (fI gl))) false
(pick (ppBig ll false) (rlo (fI gl) 0 ll)) (pick (ppBig ll false) (rlo (fI gl) 1 ll))
(pick (ppBig ll false) (rhi (fI gl) 0 ll)) (pick (ppBig ll false) (rhi (fI gl) 1 ll))
 false) = (vIL g len gl ll true && !vC gh hl gl ll false false) ∧ True) ∧ True) ∧ (true = false → (false = true → False) ∧ (false = false → False)))) := by kernel_rfl
theorem asLn1 : ConOk Tryz.prog 39 (conR asLn1C) := by
 refine con_of_vc g39L1 Tryz.func39 rfl (by kernel_rfl) fun args => ?_
 unfold asLn1C
 split
 · rename_i n len h m ll
   intro o0
   show RdM.All _ (match intsFrom .i64 o0.c with | some (m, g) => _ | none => _) _
   split
   · rename_i m0 g hm0
     intro o1
     show RdM.All _ (match holOf o1.c with | some (q, hl) => _ | none => _) _
     split
     · rename_i q hl hm1
       intro o2
       show RdM.All _ (match intsFrom .i64 o2.c with | some (m, g) => _ | none => _) _
       split
       · rename_i m2 gh hm2
         intro o3
         show RdM.All _ (match intsFrom .i64 o3.c with | some (m, g) => _ | none => _) _
         split
         · rename_i m3 gl hm3
           intro ho
           replace ho : m0 = 2 * len ∧ m2 = 2 * hl ∧ m3 = 2 * ll ∧ PO g len ∧ PO gh hl ∧ PO gl ll := ho
           obtain ⟨hsz0, hsz2, hsz3, ho⟩ := ho
           subst hsz0
           subst hsz2
           subst hsz3
           refine ⟨?_, _, _, (vc_asLn1 len hl ll q g gh gl).mpr ?_⟩
           · refine okFlag_mk rfl ⟨?_, ⟨trivial, (contR_ints hm0).1, ⟨trivial, holOf_spec hm1 (by simp [sgSig, fsts, nth, sameN_self]), ⟨trivial, (contR_ints hm2).1, ⟨trivial, (contR_ints hm3).1, trivial⟩⟩⟩⟩⟩
             simp [eqvRL, eqvR, kEq_self, sgSig, fsts, nth, sameN_self]
           · obtain ⟨h1, h3, h2⟩ := ho
             simp only [true_and, and_true, eq_self, true_implies]
             simp only [Bool.false_eq_true, Bool.true_eq_false, false_implies, true_and, and_true]
             exact ⟨⟨⟨h1.len, fun hb => h1.ppOk hb⟩, h3.len, fun hb => h3.ppOk hb⟩, h2.len, ⟨h2.len, fun hb => h2.ppOk hb⟩, ⟨h1.ob, h3.ob, h2.ob⟩, ⟨h1.ob, h3.ob, h2.ob⟩, rfl, rfl⟩
         · trivial
       · trivial
     · trivial
   · trivial
 · trivial
noncomputable def asPo1C : List SV → RdM
 | [.agg [.int .i64 3, .slcc n len, .slcc h 1], .agg [.int .i64 3, .slcc m ll, .nils], .int .i64 0, .int .i64 0] => .read n fun o0 => (match intsFrom .i64 o0.c with
   | some (m0, g) => .read h fun o1 => (match holOf o1.c with
   | some (q, hl) => .read q fun o2 => (match intsFrom .i64 o2.c with
   | some (m2, gh) => .read m fun o3 => (match intsFrom .i64 o3.c with
   | some (m3, gl) => .ret ⟨[.agg [.int .i64 3, .slcc 0 len, .slcc 1 1], .agg [.int .i64 3, .slcc 3 ll, .nils], .int .i64 0, .int .i64 0], [(0, ⟨false, 23, .ints .i64 m0 g, 0⟩), (1, ⟨false, 25, .cells [.slcc 2 hl], 0⟩), (2, ⟨false, 23, .ints .i64 m2 gh, 0⟩), (3, ⟨false, 23, .ints .i64 m3 gl, 0⟩)], .tup [.bool (vC g len gl ll true true && !(vIP gl ll gh hl false)), .bool (vIP g len gl ll true && !(vC gh hl gl ll true false))], [], [], some (m0 = 2 * len ∧ m2 = 2 * hl ∧ m3 = 2 * ll ∧ PO g len ∧ PO gh hl ∧ PO gl ll)⟩
   | none => .fail)
   | none => .fail)
   | none => .fail)
   | none => .fail)
 | _ => .fail
theorem vc_asPo1 (len hl ll : Nat) (_ : Nm)  (g : Nat → Int) (gh : Nat → Int) (gl : Nat → Int) : runA G39P1 4 [] [] (codeOf Tryz.f39) (init Tryz.f39.ntmps [.agg [.int .i64 3, .slcc 0 len, .slcc 1 1], .agg [.int .i64 3, .slcc 3 ll, .nils], .int .i64 0, .int .i64 0] [(0, ⟨false, 23, .ints .i64 (2 * len) g, 0⟩), (1, ⟨false, 25, .cells [.slcc 2 hl], 0⟩), (2, ⟨false, 23, .ints .i64 (2 * hl) gh, 0⟩), (3, ⟨false, 23, .ints .i64 (2 * ll) gl, 0⟩)] 4) (endK G39P1.E.T Tryz.f39.results.toList fun S v => postP 4 ⟨[.agg [.int .i64 3, .slcc 0 len, .slcc 1 1], .agg [.int .i64 3, .slcc 3 ll, .nils], .int .i64 0, .int .i64 0], [(0, ⟨false, 23, .ints .i64 (2 * len) g, 0⟩), (1, ⟨false, 25, .cells [.slcc 2 hl], 0⟩), (2, ⟨false, 23, .ints .i64 (2 * hl) gh, 0⟩), (3, ⟨false, 23, .ints .i64 (2 * ll) gl, 0⟩)], .tup [.bool (vC g len gl ll true true && !(vIP gl ll gh hl false)), .bool (vIP g len gl ll true && !(vC gh hl gl ll true false))], [], [], some (2 * len = 2 * len ∧ 2 * hl = 2 * hl ∧ 2 * ll = 2 * ll ∧ PO g len ∧ PO gh hl ∧ PO gl ll)⟩ S v) = (
 True ∧ (2 * len = 2 * len ∧ 2 * hl = 2 * hl ∧ (0 : Int) = 0 ∧ (len ≤ 1000000 ∧ (ppBig len true = true → ppOk (fI g) len)) ∧ hl ≤ 1000000 ∧
(ppBig hl true = true → ppOk (fI gh) hl)) ∧ (false = true → False) ∧ (false = false → (false = true → False) ∧ (false = false → (true = true → (2 * ll = 2 * ll ∧ (0 : Int) = (0 :
 Int) ∧ ll ≤ 1000000 ∧ (ppBig ll true = true → ppOk (fI gl) ll)) ∧ (2 * len = 2 * len ∧ 2 * hl = 2 * hl ∧ 2 * ll = 2 * ll ∧ ((len ≤ 1000000 ∧ SmF (fI g) (2 * len)) ∧ W1 (pick (ppBig len true) (rlo (fI g) 0 len)) ∧ W1
(pick (ppBig len true) (rlo (fI g) 1 len)) ∧ W1 (pick (ppBig len true) (rhi (fI
 g) 0 len)) ∧ W1 (pick (ppBig len true) (rhi (fI g) 1 len))) ∧ ((hl ≤ 1000000 ∧ SmF (fI gh) (2 * hl)) ∧ W1 (pick (ppBig hl true) (rlo (fI gh) 0 hl)) ∧ W1 (pick (ppBig hl true)
(rlo (fI gh) 1 hl)) ∧ W1 (pick (ppBig hl true) (rhi (fI gh) 0 hl)) ∧ W1
(pick (ppBig hl true) (rhi (fI gh) 1 hl))) ∧ (ll ≤ 1000000 ∧ SmF (fI gl) (2 * ll)) ∧ W1
(pick (ppBig ll true) (rlo (fI gl) 0 ll)) ∧ W1 (pick (ppBig ll true) (rlo (fI
 gl) 1 ll)) ∧ W1 (pick (ppBig ll true) (rhi (fI gl) 0 ll)) ∧ W1 (pick (ppBig ll true)
(rhi (fI gl) 1 ll))) ∧ (2 * len = 2 * len ∧ 2 * hl = 2 * hl ∧ 2 * ll = 2 * ll ∧ ((len ≤ 1000000 ∧ SmF (fI g) (2 * len)) ∧ W1 (pick (ppBig len true) (rlo (fI g) 0 len)) ∧ W1 (pick (ppBig len true)
(rlo (fI g) 1 len)) ∧ W1 (pick (ppBig len true) (rhi (fI g) 0 len)) ∧ W1
(pick (ppBig len true) (rhi (fI g) 1 len))) ∧ ((hl ≤ 1000000 ∧ SmF (fI gh) (2 * hl)) ∧ W1
(pick (ppBig hl true) (rlo (fI gh) 0 hl)) ∧ W1 (pick (ppBig hl true) (rlo (fI
 gh) 1 hl)) ∧ W1 (pick (ppBig hl true) (rhi (fI gh) 0 hl)) ∧ W1 (pick (ppBig hl true)
(rhi (fI gh) 1 hl))) ∧ (ll ≤ 1000000 ∧ SmF (fI gl) (2 * ll)) ∧ W1 (pick (ppBig ll true)
(rlo (fI gl) 0 ll)) ∧ W1 (pick (ppBig ll true) (rlo (fI gl) 1 ll)) ∧ W1
(pick (ppBig ll true) (rhi (fI gl) 0 ll)) ∧ W1 (pick (ppBig ll true) (rhi (fI
 gl) 1 ll))) ∧ ((rcrS (fI g) len (nsg true len (wz (fI g))) true (ppBig len true && fGt .f64 (cwF
(fI g) len len) 0) (ppBig len true && !(dcF (fI g) len len).2) (pick (ppBig len true) (rlo
(fI g) 0 len)) (pick (ppBig len true) (rlo (fI g) 1 len)) (pick (ppBig len true) (rhi
(fI g) 0 len)) (pick (ppBig len true) (rhi (fI g) 1 len)) (fI gl) ll (nsg true ll (wz
(fI gl))) true (pick (ppBig ll true) (rlo (fI gl) 0 ll)) (pick (ppBig ll true) (rlo
(fI gl) 1 ll)) (pick (ppBig ll true) (rhi (fI gl) 0 ll)) (pick (ppBig ll true) (rhi
(fI gl) 1 ll)) true && !rirB (emp true hl) (emp true ll) (mt4 (pick (ppBig hl true) (rlo
(fI gh) 0 hl)) (pick (ppBig hl true) (rlo (fI gh) 1 hl)) (pick (ppBig hl true) (rhi
(fI gh) 0 hl)) (pick (ppBig hl true) (rhi (fI gh) 1 hl)) (pick (ppBig ll true) (rlo
(fI gl) 0 ll)) (pick (ppBig ll true) (rlo (fI gl) 1 ll)) (pick (ppBig ll true) (rhi
(fI gl) 0 ll)) (pick (ppBig ll true) (rhi (fI gl) 1 ll))) (fGt .f64 (arF (pick
(ppBig ll true) (rlo (fI gl) 0 ll)) (pick (ppBig ll true) (rlo (fI gl) 1 ll)) (pick
(ppBig ll true) (rhi (fI gl) 0 ll)) (pick (ppBig ll true) (rhi (fI gl) 1 ll))) (arF
(pick (ppBig hl true) (rlo (fI gh) 0 hl)) (pick (ppBig hl true) (rlo (fI gh) 1 hl))
(pick (ppBig hl true) (rhi (fI gh) 0 hl)) (pick (ppBig hl true) (rhi (fI gh) 1 hl))))
(anyB (sIs (fI gl) ll (nsg true ll (wz (fI gl))) (pick (ppBig ll true) (rlo
(fI gl) 0 ll)) (pick (ppBig ll true) (rlo (fI gl) 1 ll)) (pick (ppBig ll true) (rhi
(fI gl) 0 ll)) (pick (ppBig ll true) (rhi (fI gl) 1 ll)) (fI gh) hl false) (nsg true hl
(wz (fI gh)))) (anyB (sIs (fI gh) hl (nsg true hl (wz (fI gh))) (pick
(ppBig hl true) (rlo (fI gh) 0 hl)) (pick (ppBig hl true) (rlo (fI gh) 1 hl)) (pick
(ppBig hl true) (rhi (fI gh) 0 hl)) (pick (ppBig hl true) (rhi (fI gh) 1 hl)) (fI gl) ll
 false) (nsg true ll (wz (fI gl))))) = (vC g len gl ll true true && !vIP gl ll gh hl false) ∧ (rirB (emp true ll)
(emp true len) (mt4 (pick (ppBig ll true) (rlo (fI gl) 0 ll)) (pick (ppBig ll true)
(rlo (fI gl) 1 ll)) (pick (ppBig ll true) (rhi (fI gl) 0 ll)) (pick (ppBig ll true)
(rhi (fI gl) 1 ll)) (pick (ppBig len true) (rlo (fI g) 0 len)) (pick (ppBig len true)
(rlo (fI g) 1 len)) (pick (ppBig len true) (rhi (fI g) 0 len)) (pick (ppBig len true)
(rhi (fI g) 1 len))) (fGt .f64 (arF (pick (ppBig len true) (rlo (fI g) 0 len)) (pick
(ppBig len true) (rlo (fI g) 1 len)) (pick (ppBig len true) (rhi (fI g) 0 len)) (pick
(ppBig len true) (rhi (fI g) 1 len))) (arF (pick (ppBig ll true) (rlo (fI gl) 0 ll))
(pick (ppBig ll true) (rlo (fI gl) 1 ll)) (pick (ppBig ll true) (rhi (fI gl) 0 ll))
(pick (ppBig ll true) (rhi (fI gl) 1 ll)))) (anyB (sIs (fI g) len (nsg true len
(wz (fI g))) (pick (ppBig len true) (rlo (fI g) 0 len)) (pick (ppBig len true)
(rlo (fI g) 1 len)) (pick (ppBig len true) (rhi (fI g) 0 len)) (pick (ppBig len true)
(rhi (fI g) 1 len)) (fI gl) ll true) (nsg true ll (wz (fI gl)))) (anyB (sIs (fI
 gl) ll (nsg true ll (wz (fI gl))) (pick (ppBig ll true) (rlo (fI gl) 0 ll)) (pick
(ppBig ll true) (rlo (fI gl) 1 ll)) (pick (ppBig ll true) (rhi (fI gl) 0 ll)) (pick
(ppBig ll true) (rhi (fI gl) 1 ll)) (fI g) len true) (nsg true len (wz (fI g)))) && !rcrS
(fI gh) hl (nsg true hl (wz (fI gh))) true (ppBig hl true && fGt .f64 (cwF (fI gh) hl hl) 0)
(ppBig hl true && !(dcF (fI gh) hl hl).2) (pick (ppBig hl true) (rlo (fI gh) 0 hl)) (pick
(ppBig hl true) (rlo (fI gh) 1 hl)) (pick (ppBig hl true) (rhi (fI gh) 0 hl)) (pick
(ppBig hl true) (rhi (fI gh) 1 hl)) (fI gl) ll (nsg true ll (wz (fI gl))) true (pick
(ppBig ll true) (rlo (fI gl) 0 ll)) (pick (ppBig ll true) (rlo (fI gl) 1 ll)) (pick
(ppBig ll true) (rhi (fI gl) 0 ll)) (pick (ppBig ll true) (rhi (fI gl) 1 ll)) false) =
(vIP g len gl ll true && !vC gh hl gl ll true false) ∧ True) ∧ True) ∧ (true = false → False)))) := by kernel_rfl
theorem asPo1 : ConOk Tryz.prog 39 (conR asPo1C) := by
 refine con_of_vc g39P1 Tryz.func39 rfl (by kernel_rfl) fun args => ?_
 unfold asPo1C
 split
 · rename_i n len h m ll
   intro o0
   show RdM.All _ (match intsFrom .i64 o0.c with | some (m, g) => _ | none => _) _
   split
   · rename_i m0 g hm0
     intro o1
     show RdM.All _ (match holOf o1.c with | some (q, hl) => _ | none => _) _
     split
     · rename_i q hl hm1
       intro o2
       show RdM.All _ (match intsFrom .i64 o2.c with | some (m, g) => _ | none => _) _
       split
       · rename_i m2 gh hm2
         intro o3
         show RdM.All _ (match intsFrom .i64 o3.c with | some (m, g) => _ | none => _) _
         split
         · rename_i m3 gl hm3
           intro ho
           replace ho : m0 = 2 * len ∧ m2 = 2 * hl ∧ m3 = 2 * ll ∧ PO g len ∧ PO gh hl ∧ PO gl ll := ho
           obtain ⟨hsz0, hsz2, hsz3, ho⟩ := ho
           subst hsz0
           subst hsz2
           subst hsz3
           refine ⟨?_, _, _, (vc_asPo1 len hl ll q g gh gl).mpr ?_⟩
           · refine okFlag_mk rfl ⟨?_, ⟨trivial, (contR_ints hm0).1, ⟨trivial, holOf_spec hm1 (by simp [sgSig, fsts, nth, sameN_self]), ⟨trivial, (contR_ints hm2).1, ⟨trivial, (contR_ints hm3).1, trivial⟩⟩⟩⟩⟩
             simp [eqvRL, eqvR, kEq_self, sgSig, fsts, nth, sameN_self]
           · obtain ⟨h1, h3, h2⟩ := ho
             simp only [true_and, and_true, eq_self, true_implies]
             simp only [Bool.false_eq_true, Bool.true_eq_false, false_implies, true_and, and_true]
             exact ⟨⟨⟨h1.len, fun hb => h1.ppOk hb⟩, h3.len, fun hb => h3.ppOk hb⟩, ⟨h2.len, fun hb => h2.ppOk hb⟩, ⟨h1.ob, h3.ob, h2.ob⟩, ⟨h1.ob, h3.ob, h2.ob⟩, rfl, rfl⟩
         · trivial
       · trivial
     · trivial
   · trivial
 · trivial
end Go.Proofs.Tryz.Sx

namespace Go.Proofs.Tryz.Sx
open Go Go.Sx Go.Proofs Go.Fl Go.Geo
theorem cp_rs {meet onS lfS on lf : Nat → Bool} {al : Bool} {E : Nat} (h1 : ∀ i, i < E → meet i = false → on i = false ∧ lf i = false) (h2 : ∀ i, i < E → onS i = on i) (h3 : ∀ i, i < E → on i = false → lfS i = lf i) :
   ∀ m, m ≤ E → (cpR meet onS lfS al false (-1) m).1 = (rsR on lf m).1 ∧ ((rsR on lf m).1 = false → (cpR meet onS lfS al false (-1) m).2.1 = (rsR on lf m).2) ∧ ((rsR on lf m).1 = true → (cpR meet onS lfS al false (-1) m).2.1 = al)
 | 0, _ => ⟨rfl, fun _ => rfl, fun h => (nomatch h)⟩
 | m + 1, hm => by
   obtain ⟨i1, i2, i3⟩ := cp_rs h1 h2 h3 m (by omega)
   have ec : cpR meet onS lfS al false (-1) (m + 1) = if (cpR meet onS lfS al false (-1) m).1 = true ∨ meet m = false then cpR meet onS lfS al false (-1) m else if onS m = true then (true, al, (m : Int)) else (false, xor (cpR meet onS lfS al false (-1) m).2.1 (lfS m), (cpR meet onS lfS al false (-1) m).2.2) := rfl
   have er : rsR on lf (m + 1) = if (rsR on lf m).1 = true then rsR on lf m else if on m = true then (true, (rsR on lf m).2) else (false, (rsR on lf m).2 != lf m) := rfl
   rw [ec, er, i1]
   cases hr : (rsR on lf m).1 with
   | true =>
     rw [if_pos (.inl rfl), if_pos rfl, hr]
     exact ⟨by rw [i1, hr], fun h => (nomatch h), fun _ => i3 hr⟩
   | false =>
     rw [if_neg (show ¬ false = true by decide)]
     cases hmt : meet m with
     | false =>
       obtain ⟨o1, o2⟩ := h1 m (by omega) hmt
       rw [if_pos (.inr rfl), if_neg (by rw [o1]; decide), o2]
       refine ⟨by rw [i1, hr], fun _ => ?_, fun h => (nomatch h)⟩
       rw [i2 hr]
       simp
     | true =>
       rw [if_neg (by simp), h2 m (by omega)]
       cases ho : on m with
       | true => exact ⟨rfl, fun h => (nomatch h), fun _ => rfl⟩
       | false =>
         rw [if_neg (by decide), if_neg (by decide)]
         refine ⟨rfl, fun _ => ?_, fun h => (nomatch h)⟩
         show xor _ _ = _
         rw [i2 hr, h3 m (by omega) ho]
def par (lf : Nat → Bool) : Nat → Bool
 | 0 => false
 | i + 1 => par lf i != lf i
theorem rs_par {on lf : Nat → Bool} : ∀ m, (∀ i, i < m → on i = false) → rsR on lf m = (false, par lf m)
 | 0, _ => rfl
 | m + 1, h => by
   have er : rsR on lf (m + 1) = if (rsR on lf m).1 = true then rsR on lf m else if on m = true then (true, (rsR on lf m).2) else (false, (rsR on lf m).2 != lf m) := rfl
   rw [er, rs_par m (fun i hi => h i (by omega)), if_neg (by simp), if_neg (by rw [h m (by omega)]; simp)]
   rfl
theorem par_none {lf : Nat → Bool} : ∀ m, (∀ i, i < m → lf i = false) → par lf m = false
 | 0, _ => rfl
 | m + 1, h => by
   show (par lf m != lf m) = false
   rw [par_none m (fun i hi => h i (by omega)), h m (by omega)]
   rfl
theorem par_tele {lf s s' : Nat → Bool} {E : Nat} (h : ∀ i, i < E → lf i = (s i != s' i)) (hs : ∀ i, i + 1 < E → s' i = s (i + 1)) : ∀ m, m + 1 ≤ E → par lf (m + 1) = (s 0 != s' m)
 | 0, hm => by
   show (false != lf 0) = _
   rw [h 0 (by omega)]
   simp
 | m + 1, hm => by
   show (par lf (m + 1) != lf (m + 1)) = _
   rw [par_tele h hs m (by omega), h (m + 1) (by omega), hs m (by omega)]
   cases s 0 <;> cases s (m + 1) <;> cases s' (m + 1) <;> rfl
theorem fmin_I {x y : Nat} {a b : Int} (hx : FI x a) (hy : FI y b) : FI (fmin x y) (min a b) := by
 unfold fmin
 rw [fgt_I hx hy]
 by_cases e : b < a
 · rw [if_pos (decide_eq_true e), Int.min_eq_right (by omega)]; exact hy
 · rw [if_neg (by simpa using e), Int.min_eq_left (by omega)]; exact hx
theorem fmax_I {x y : Nat} {a b : Int} (hx : FI x a) (hy : FI y b) : FI (fmax x y) (max a b) := by
 unfold fmax
 rw [fgt_I hx hy]
 by_cases e : b < a
 · rw [if_pos (decide_eq_true e), Int.max_eq_left (by omega)]; exact hx
 · rw [if_neg (by simpa using e), Int.max_eq_right (by omega)]; exact hy
theorem ns_eq {g : Nat → Int} {n : Nat} (h : PO g n) (h3 : 3 ≤ n) : nsI g n true = nsegs n true g := by
 have w : ∀ j, j < 2 * n → wz (fI g) j = g j := fun j hj => (w1_fI (h.2 j hj)).2
 unfold nsI nsg nsegs
 rw [if_pos rfl, if_neg (show ¬ n < 3 by omega), w _ (by omega), w 0 (by omega), w _ (by omega), w 1 (by omega), if_neg (show ¬ (n < 2 ∨ true = true ∧ n < 3) by omega)]
 have e1 : 2 * (n - 1) = 2 * n - 2 := by omega
 have e2 : 2 * n - 2 + 1 = 2 * n - 1 := by omega
 rw [e1, e2]
 by_cases e : g (2 * n - 2) = g 0 ∧ g (2 * n - 1) = g 1
 · rw [if_pos e, if_neg (fun hh => hh.2 e)]
 · rw [if_neg e, if_pos ⟨rfl, e⟩]
theorem ns_cases {g : Nat → Int} {n : Nat} (h3 : 3 ≤ n) : nsegs n true g = n ∨ nsegs n true g = n - 1 ∧ g (2 * n - 2) = g 0 ∧ g (2 * n - 1) = g 1 := by
 unfold nsegs
 rw [if_neg (by omega)]
 split
 · exact .inl rfl
 · rename_i hh
   refine .inr ⟨rfl, ?_⟩
   exact Classical.not_not.1 (fun h' => hh ⟨rfl, h'⟩)
theorem eZ_at {g : Nat → Int} {n i : Nat} (hi : i < n) : eZ g n 0 i = g (2 * i) ∧ eZ g n 1 i = g (2 * i + 1) ∧ eZ g n 2 i = g (2 * nx n i) ∧ eZ g n 3 i = g (2 * nx n i + 1) := by
 have d : ∀ k, k < 4 → (4 * i + k) / 4 = i ∧ (4 * i + k) % 4 = k := fun k hk => ⟨by omega, by omega⟩
 unfold eZ segI nx
 rw [(d 0 (by decide)).1, (d 0 (by decide)).2, (d 1 (by decide)).1, (d 1 (by decide)).2, (d 2 (by decide)).1, (d 2 (by decide)).2, (d 3 (by decide)).1, (d 3 (by decide)).2]
 by_cases e : i + 1 < n
 · simp only [if_pos e, if_neg (show ¬ i + 1 = n by omega)]
   refine ⟨?_, ?_, ?_, ?_⟩ <;> first | trivial | (congr 1; omega) | congr 1
 · simp only [if_neg e, if_pos (show i + 1 = n by omega)]
   refine ⟨?_, ?_, ?_, ?_⟩ <;> simp
section
variable {g : Nat → Int} {n : Nat} (h : PO g n) (h3 : 3 ≤ n) {px py : Int}
omit h in
theorem ns_pos (h3 : 3 ≤ n) : 2 ≤ nsegs n true g ∧ nsegs n true g ≤ n := by
 rcases ns_cases (g := g) h3 with e | e <;> omega
include h h3 in
theorem rcp_in (hx : small px) (hy : small py) (al : Bool) (hb : hasF (rX0 g n true) (rX1 g n true) (rX2 g n true) (rX3 g n true) (ofI .f64 px) (ofI .f64 py) = true) :
   (rcp (fI g) n (nsI g n true) (rX0 g n true) (rX1 g n true) (rX2 g n true) (rX3 g n true) (ofI .f64 px) (ofI .f64 py) al).1 = if al = true then decide (0 ≤ rgS g n px py) else decide (1 ≤ rgS g n px py) := by
 unfold rcp
 rw [if_pos hb, ns_eq h h3]
 have hE := ns_pos (g := g) h3
 have w : ∀ j, j < 2 * n → wh (fI g j) = g j := fun j hj => wh_of (h.2 j hj)
 have hon : ∀ i, i < nsegs n true g → onS (fI g) n (ofI .f64 px) (ofI .f64 py) i = onZ g n px py i := fun i hi => by
   have hin : i < n := by omega
   have hxn := nx_lt hin
   obtain ⟨a0, a1, a2, a3⟩ := eZ_at (g := g) hin
   unfold onS onW onZ
   rw [w _ (by omega), w _ (by omega), w _ (by omega), w _ (by omega), wh_of hx, wh_of hy, a0, a1, a2, a3]
 have hlf : ∀ i, i < nsegs n true g → onZ g n px py i = false → lfS (fI g) n (ofI .f64 px) (ofI .f64 py) i = lfZ g n px py i := fun i hi ho => by
   have hin : i < n := by omega
   have hxn := nx_lt hin
   obtain ⟨a0, a1, a2, a3⟩ := eZ_at (g := g) hin
   unfold lfS lfW lfZ
   rw [w _ (by omega), w _ (by omega), w _ (by omega), w _ (by omega), wh_of hx, wh_of hy, a0, a1, a2, a3]
   unfold onZ at ho
   rw [a0, a1, a2, a3] at ho
   have ho := of_decide_eq_false ho
   exact decide_eq_decide.2 ⟨fun hh => hh.2, fun hh => ⟨ho, hh⟩⟩
 have hmt : ∀ i, i < nsegs n true g → mtF (fI g) n ninfw (ofI .f64 py) infw (ofI .f64 py) i = false → onZ g n px py i = false ∧ lfZ g n px py i = false := fun i hi hm => by
   have hin : i < n := by omega
   have hxn := nx_lt hin
   obtain ⟨a0, a1, a2, a3⟩ := eZ_at (g := g) hin
   have f : ∀ j, j < 2 * n → FI (fI g j) (g j) := fun j hj => fi (h.2 j hj)
   unfold mtF at hm
   rw [fgt_inf' (fmin_I (f (2 * i) (by omega)) (f (2 * nx n i) (by omega))).1, flt_ninf (fmax_I (f (2 * i) (by omega)) (f (2 * nx n i) (by omega))).1,
     fgt_I (fmin_I (f (2 * i + 1) (by omega)) (f (2 * nx n i + 1) (by omega))) (fi hy), flt_I (fmax_I (f (2 * i + 1) (by omega)) (f (2 * nx n i + 1) (by omega))) (fi hy)] at hm
   simp only [Bool.not_false, Bool.and_true, Bool.and_eq_false_iff, Bool.not_eq_false', decide_eq_true_eq] at hm
   constructor
   · refine decide_eq_false fun hh => ?_
     rw [a0, a1, a2, a3] at hh
     have := hh.2.1
     unfold btw at this
     omega
   · refine decide_eq_false fun hh => ?_
     rw [a0, a1, a2, a3] at hh
     unfold Lft at hh
     omega
 obtain ⟨c1, c2, c3⟩ := cp_rs (al := al) hmt hon hlf (nsegs n true g) (Nat.le_refl _)
 unfold cpV rgS rsV
 cases hr : (rsR (onZ g n px py) (lfZ g n px py) (nsegs n true g)).1 with
 | true =>
   rw [c3 hr, if_pos rfl]
   cases al <;> rfl
 | false =>
   rw [c2 hr, if_neg (show ¬ false = true by decide)]
   cases (rsR (onZ g n px py) (lfZ g n px py) (nsegs n true g)).2 <;> cases al <;> rfl
include h h3 in
theorem has_iff (hx : small px) (hy : small py) : hasF (rX0 g n true) (rX1 g n true) (rX2 g n true) (rX3 g n true) (ofI .f64 px) (ofI .f64 py) = decide (loZ g 0 n ≤ px ∧ px ≤ hiZ g 0 n ∧ loZ g 1 n ≤ py ∧ py ≤ hiZ g 1 n) := by
 have hb : ppBig n true = true := decide_eq_true ⟨by omega, fun _ => h3⟩
 have l0 := (lo_F (whl_fI h.2) (k := 0) (by decide) n (Nat.le_refl _)).1
 have l1 := (lo_F (whl_fI h.2) (k := 1) (by decide) n (Nat.le_refl _)).1
 have u0 := (hi_F (whl_fI h.2) (k := 0) (by decide) n (Nat.le_refl _)).1
 have u1 := (hi_F (whl_fI h.2) (k := 1) (by decide) n (Nat.le_refl _)).1
 unfold hasF rX0 rX1 rX2 rX3 pick
 rw [hb, if_pos rfl, if_pos rfl, if_pos rfl, if_pos rfl, fge_I (fi hx) l0, fle_I (fi hx) u0, fge_I (fi hy) l1, fle_I (fi hy) u1]
 simp only [Bool.decide_and, Bool.and_assoc]
include h3 in
theorem rg_out (hb : ¬ (loZ g 0 n ≤ px ∧ px ≤ hiZ g 0 n ∧ loZ g 1 n ≤ py ∧ py ≤ hiZ g 1 n)) : rgS g n px py = -1 := by
 have hE := ns_pos (g := g) h3
 have lo : ∀ k j, j < n → loZ g k n ≤ g (2 * j + k) := fun k j hj => loZ_le hj
 have hi : ∀ k j, j < n → g (2 * j + k) ≤ hiZ g k n := fun k j hj => hiZ_ge hj
 have hon : ∀ i, i < nsegs n true g → onZ g n px py i = false := fun i hi' => by
   have hin : i < n := by omega
   have hxn := nx_lt hin
   obtain ⟨a0, a1, a2, a3⟩ := eZ_at (g := g) hin
   refine decide_eq_false fun hh => hb ?_
   rw [a0, a1, a2, a3] at hh
   obtain ⟨h1, h2, _⟩ := hh
   have b1 := lo 0 i hin
   have b2 := lo 0 _ hxn
   have b3 := lo 1 i hin
   have b4 := lo 1 _ hxn
   have c1 := hi 0 i hin
   have c2 := hi 0 _ hxn
   have c3 := hi 1 i hin
   have c4 := hi 1 _ hxn
   rw [Nat.add_zero] at b1 b2 c1 c2
   unfold btw at h1 h2
   omega
 unfold rgS
 rw [rs_par _ hon]
 have hp : par (lfZ g n px py) (nsegs n true g) = false := by
   by_cases hl : px < loZ g 0 n
   · have ht := par_tele (lf := lfZ g n px py) (E := nsegs n true g) (s := fun i => decide (g (2 * i + 1) ≤ py)) (s' := fun i => decide (g (2 * nx n i + 1) ≤ py)) (fun i hi' => by
       have hin : i < n := by omega
       have hxn := nx_lt hin
       obtain ⟨a0, a1, a2, a3⟩ := eZ_at (g := g) hin
       have ho := of_decide_eq_false (hon i hi')
       rw [a0, a1, a2, a3] at ho
       have b1 := lo 0 i hin
       have b2 := lo 0 _ hxn
       rw [Nat.add_zero] at b1 b2
       have hl1 := left_of ho (p1 := px) (p2 := py)
       have e : lfZ g n px py i = decide (Lft (g (2 * i)) (g (2 * i + 1)) (g (2 * nx n i)) (g (2 * nx n i + 1)) px py) := by unfold lfZ; rw [a0, a1, a2, a3]
       rw [e]
       by_cases u1 : g (2 * i + 1) ≤ py <;> by_cases u2 : g (2 * nx n i + 1) ≤ py
       · rw [decide_eq_true u1, decide_eq_true u2, decide_eq_false]
         · rfl
         · intro hh
           unfold Lft at hh
           omega
       · rw [decide_eq_true u1, decide_eq_false u2, decide_eq_true (hl1 (.inl ⟨by omega, u1, by omega⟩) (by omega) (by omega))]
         rfl
       · rw [decide_eq_false u1, decide_eq_true u2, decide_eq_true (hl1 (.inr ⟨by omega, u2, by omega⟩) (by omega) (by omega))]
         rfl
       · rw [decide_eq_false u1, decide_eq_false u2, decide_eq_false]
         · rfl
         · intro hh
           unfold Lft at hh
           omega) (fun i hi' => by
       have : nx n i = i + 1 := if_neg (by omega)
       simp only [this]) (nsegs n true g - 1) (by omega)
     rw [show nsegs n true g - 1 + 1 = nsegs n true g by omega] at ht
     rw [ht]
     have : g (2 * nx n (nsegs n true g - 1) + 1) = g 1 := by
       rcases ns_cases (g := g) h3 with e | ⟨e, e1, e2⟩
       · rw [e]
         have : nx n (n - 1) = 0 := if_pos (by omega)
         rw [this]
       · rw [e]
         have : nx n (n - 1 - 1) = n - 1 := by unfold nx; rw [if_neg (by omega)]; omega
         rw [this, show 2 * (n - 1) + 1 = 2 * n - 1 by omega, e2]
     simp only [this]
     simp
   · refine par_none _ fun i hi' => ?_
     have hin : i < n := by omega
     have hxn := nx_lt hin
     obtain ⟨a0, a1, a2, a3⟩ := eZ_at (g := g) hin
     refine decide_eq_false fun hh => ?_
     rw [a0, a1, a2, a3] at hh
     have b3 := lo 1 i hin
     have b4 := lo 1 _ hxn
     have c1 := hi 0 i hin
     have c2 := hi 0 _ hxn
     have c3 := hi 1 i hin
     have c4 := hi 1 _ hxn
     rw [Nat.add_zero] at c1 c2
     have hr := fun f h1 h2 => right_of (a1 := g (2 * i)) (a2 := g (2 * i + 1)) (b1 := g (2 * nx n i)) (b2 := g (2 * nx n i + 1)) (p1 := px) (p2 := py) f h1 h2 hh
     unfold Lft at hh
     rcases hh with ⟨f1, f2, f3, _⟩ | ⟨f1, f2, f3, _⟩
     · exact hr (.inr ⟨f1, f2, f3⟩) (by omega) (by omega)
     · exact hr (.inl ⟨by omega, f2, f3⟩) (by omega) (by omega)
 rw [hp]
 rfl
include h h3 in
theorem rcp_rg (hx : small px) (hy : small py) (al : Bool) :
   (rcp (fI g) n (nsI g n true) (rX0 g n true) (rX1 g n true) (rX2 g n true) (rX3 g n true) (ofI .f64 px) (ofI .f64 py) al).1 = if al = true then decide (0 ≤ rgS g n px py) else decide (1 ≤ rgS g n px py) := by
 cases hb : hasF (rX0 g n true) (rX1 g n true) (rX2 g n true) (rX3 g n true) (ofI .f64 px) (ofI .f64 py) with
 | true => exact rcp_in h h3 hx hy al hb
 | false =>
   have hb' := hb
   rw [has_iff h h3 hx hy] at hb'
   rw [rg_out h3 (of_decide_eq_false hb')]
   unfold rcp
   rw [if_neg (by rw [hb]; decide)]
   cases al <;> rfl
end
end Go.Proofs.Tryz.Sx

namespace Go.Proofs.Tryz.Sx
open Go Go.Sx Go.Proofs Go.Fl Go.Geo
theorem allB_at {p : Nat → Bool} : ∀ {m i : Nat}, allB p m = true → i < m → p i = true
 | 0, i, _, hi => by omega
 | m + 1, i, h, hi => by
   have h : (allB p m && p m) = true := h
   rw [Bool.and_eq_true] at h
   by_cases e : i = m
   · subst e; exact h.2
   · exact allB_at h.1 (by omega)
theorem allB_congr {p q : Nat → Bool} {m : Nat} (h : ∀ i, i < m → p i = q i) : allB p m = allB q m := by
 cases e : allB q m with
 | true => exact allB_all fun i hi => by rw [h i hi]; exact allB_at e hi
 | false =>
   cases e' : allB p m with
   | false => rfl
   | true =>
     have := allB_all (p := q) (m := m) fun i hi => by rw [← h i hi]; exact allB_at e' hi
     rw [e] at this
     cases this
theorem cross_tri (a1 a2 b1 b2 c1 c2 : Int) : (b1 - a1) * (c2 - b2) - (b2 - a2) * (c1 - b1) = cross a1 a2 b1 b2 c1 c2 := by
 unfold cross; grind
theorem cv_parts {g : Nat → Int} {n : Nat} (hc : isCv g n = true) : 3 ≤ nsegs n true g ∧ 3 ≤ n ∧ ∀ i, i < nsegs n true g → tn1 g n (nsegs n true g) i = true := by
 unfold isCv isCvE at hc
 simp only [Bool.and_eq_true] at hc
 have h3 := of_decide_eq_true hc.1
 refine ⟨h3, ?_, fun i hi => ?_⟩
 · have := nsegs_le n true g; omega
 · have := allB_at hc.2.1 hi
   unfold okE at this
   simp only [Bool.and_eq_true] at this
   exact this.1
theorem tn1_cross {g : Nat → Int} {n E i : Nat} (h : tn1 g n E i = true) : 0 ≤ sdE g n i (eZ g n 2 (nxE E i)) (eZ g n 3 (nxE E i)) := by
 unfold tn1 at h
 simp only [Bool.not_eq_true', Bool.or_eq_false_iff, decide_eq_false_iff_not] at h
 omega
theorem zc_nonneg {g : Nat → Int} {n : Nat} (hc : isCv g n = true) {i : Nat} (hi : i < n) : 0 ≤ zcZ g n i := by
 obtain ⟨h3, hn, ht⟩ := cv_parts hc
 have key : i < nsegs n true g → nxE (nsegs n true g) i < n → nx n (nxE (nsegs n true g) i) = nx2 n i → nxE (nsegs n true g) i = nx n i → 0 ≤ zcZ g n i := fun h1 h2 h4 h5 => by
   have := tn1_cross (ht i h1)
   unfold sdE at this
   obtain ⟨a0, a1, a2, a3⟩ := eZ_at (g := g) hi
   obtain ⟨_, _, b2, b3⟩ := eZ_at (g := g) h2
   rw [a0, a1, a2, a3, b2, b3, h4] at this
   unfold zcZ
   rw [cross_tri]
   exact this
 rcases ns_cases (g := g) hn with e | ⟨e, e1, e2⟩
 · rw [e] at key
   refine key hi ?_ ?_ rfl
   · exact nx_lt hi
   · unfold nxE nx nx2
     repeat' split
     all_goals omega
 · by_cases u : i + 2 < n
   · rw [e] at key
     refine key (by omega) ?_ ?_ ?_
     · unfold nxE; split <;> omega
     · unfold nxE nx nx2
       repeat' split
       all_goals omega
     · unfold nxE nx
       repeat' split
       all_goals omega
   · have z0 : zcZ g n i = 0 := by
       have e3 : 2 * (n - 1) = 2 * n - 2 := by omega
       have e4 : 2 * (n - 1) + 1 = 2 * n - 1 := by omega
       by_cases v : i + 1 = n
       · have : i = n - 1 := by omega
         have hx : nx n (n - 1) = 0 := if_pos (by omega)
         subst this
         unfold zcZ
         rw [hx, e4, e3, e1, e2]
         simp
       · have hx : nx n i = n - 1 := by unfold nx; rw [if_neg v]; omega
         have hx2 : nx2 n i = 0 := by unfold nx2; rw [if_neg v, if_pos (by omega)]
         unfold zcZ
         rw [hx, hx2, e3, show 2 * n - 2 + 1 = 2 * n - 1 by omega, e1, e2]
         simp
     omega
theorem dc_conv {z : Nat → Int} {n : Nat} : ∀ m, (∀ i, i < m → 0 ≤ zcZ z n i) → (dcZ z n m).2 = false ∧ ((dcZ z n m).1 = 0 ∨ (dcZ z n m).1 = 1)
 | 0, _ => ⟨rfl, .inl rfl⟩
 | m + 1, h => by
   obtain ⟨h1, h2⟩ := dc_conv m fun i hi => h i (by omega)
   have hz := h m (by omega)
   have e : dcZ z n (m + 1) = dStepZ (dcZ z n m).1 (dcZ z n m).2 (zcZ z n m) := rfl
   rw [e]
   unfold dStepZ
   rw [h1, if_neg (show ¬ false = true by decide)]
   rcases h2 with h2 | h2 <;> rw [h2]
   · rw [if_pos rfl, if_neg (by omega)]
     split
     · exact ⟨rfl, .inr rfl⟩
     · exact ⟨rfl, .inl rfl⟩
   · rw [if_neg (by decide), if_neg (by omega)]
     split
     · exact ⟨by decide, .inr rfl⟩
     · exact ⟨rfl, .inr rfl⟩
theorem cv_flag {g : Nat → Int} {n : Nat} (h : PO g n) (hc : isCv g n = true) : pCv g n true = true := by
 have hn := (cv_parts hc).2.1
 have hb : ppBig n true = true := decide_eq_true ⟨by omega, fun _ => hn⟩
 unfold pCv
 rw [hb, dc_F (whl_fI h.2) (by omega) n (Nat.le_refl _), (dc_conv n fun i hi => zc_nonneg hc hi).1]
 rfl
theorem X_FI {g : Nat → Int} {n : Nat} {cl : Bool} (h : PO g n) (hb : ppBig n cl = true) : FI (rX0 g n cl) (loZ g 0 n) ∧ FI (rX1 g n cl) (loZ g 1 n) ∧ FI (rX2 g n cl) (hiZ g 0 n) ∧ FI (rX3 g n cl) (hiZ g 1 n) := by
 unfold rX0 rX1 rX2 rX3 pick
 rw [hb, if_pos rfl, if_pos rfl, if_pos rfl, if_pos rfl]
 exact ⟨(lo_F (whl_fI h.2) (by decide) n (Nat.le_refl _)).1, (lo_F (whl_fI h.2) (by decide) n (Nat.le_refl _)).1, (hi_F (whl_fI h.2) (by decide) n (Nat.le_refl _)).1, (hi_F (whl_fI h.2) (by decide) n (Nat.le_refl _)).1⟩
def sdB (g : Nat → Int) (n : Nat) (al : Bool) (x y : Int) : Bool := if al = true then decide (0 ≤ rgS g n x y) else decide (1 ≤ rgS g n x y)
theorem sdB_box {g : Nat → Int} {n : Nat} (h3 : 3 ≤ n) {al : Bool} {x y : Int} (h : sdB g n al x y = true) : loZ g 0 n ≤ x ∧ x ≤ hiZ g 0 n ∧ loZ g 1 n ≤ y ∧ y ≤ hiZ g 1 n := by
 refine Classical.not_not.1 fun hn => ?_
 have := rg_out h3 hn
 unfold sdB at h
 rw [this] at h
 cases al <;> simp at h
theorem vC_conv {g k : Nat → Int} {n m : Nat} {cl2 al : Bool} (h : PO g n) (hk : PO k m) (h3 : 3 ≤ n) (hv : pCv g n true = true) (hb : ppBig m cl2 = true) (hm : m < 16) :
   vC g n k m cl2 al = allB (fun i => sdB g n al (k (2 * i)) (k (2 * i + 1))) m := by
 have hb' := of_decide_eq_true hb
 have e1 : emp true n = false := decide_eq_false (by omega)
 have e2 : emp cl2 m = false := decide_eq_false fun hh => by
   rcases hh with hh | ⟨hh, hh'⟩
   · omega
   · have := hb'.2 hh; omega
 have hbn : ppBig n true = true := decide_eq_true ⟨by omega, fun _ => h3⟩
 have ep : allB (sPs (fI g) n (nsI g n true) (rX0 g n true) (rX1 g n true) (rX2 g n true) (rX3 g n true) (fI k) al) m = allB (fun i => sdB g n al (k (2 * i)) (k (2 * i + 1))) m := allB_congr fun i hi => by
   unfold sPs
   exact rcp_rg h h3 (hk.2 _ (by omega)) (hk.2 _ (by omega)) al
 unfold vC rcrS
 rw [e1, e2, decide_eq_false (show ¬ 16 ≤ m by omega), hv, if_pos rfl, ep]
 simp only [Bool.not_false, Bool.true_and, Bool.false_and, Bool.false_or]
 cases ea : allB (fun i => sdB g n al (k (2 * i)) (k (2 * i + 1))) m with
 | false => simp
 | true =>
   obtain ⟨x0, x1, x2, x3⟩ := X_FI h hbn
   obtain ⟨y0, y1, y2, y3⟩ := X_FI hk hb
   rw [Bool.and_true]
   have box := fun j (hj : j < m) => sdB_box h3 (allB_at ea hj)
   obtain ⟨j0, hj0, f0⟩ := loZ_at (z := k) (k := 0) (show 0 < m by omega)
   obtain ⟨j1, hj1, f1⟩ := loZ_at (z := k) (k := 1) (show 0 < m by omega)
   obtain ⟨j2, hj2, f2⟩ := hiZ_at (z := k) (k := 0) (show 0 < m by omega)
   obtain ⟨j3, hj3, f3⟩ := hiZ_at (z := k) (k := 1) (show 0 < m by omega)
   rw [Nat.add_zero] at f0 f2
   have b0 := (box j0 hj0).1
   have b1 := (box j1 hj1).2.2.1
   have b2 := (box j2 hj2).2.1
   have b3 := (box j3 hj3).2.2.2
   unfold inF
   rw [flt_I y0 x0, fgt_I y2 x2, flt_I y1 x1, fgt_I y3 x3, decide_eq_false (by omega), decide_eq_false (by omega), decide_eq_false (by omega), decide_eq_false (by omega)]
   rfl
end Go.Proofs.Tryz.Sx

namespace Go.Proofs.Tryz.Sx
open Go Go.Sx Go.Proofs Go.Fl Go.Geo
set_option maxRecDepth 100000
noncomputable def GPA : Ctx := ⟨⟨tys, []⟩, [(39, conR asPt0C)]⟩
theorem gPA : CtxOk Tryz.prog GPA := ⟨⟨tysOk, FlatsOk.nil⟩, GamOk.cons asPt0 GamOk.nil, by kernel_rfl⟩
def polyAwF : PF := fun
 | [] => some (.tt, none)
 | _ => none
theorem vc_polyAw (R : SV → Prop) : runA GPA 0 [] [] (codeOf Tryz.f50) (init Tryz.f50.ntmps [] [] 0) (endK GPA.E.T Tryz.f50.results.toList fun _ v => R v) = (
(8 = 8 ∧ 2 = 2 ∧ PO (fun (i : Nat) => List.getD [(0 : Int), (0 : Int), (2 : Int), (0 : Int), (2 : Int), (2 : Int), (0 : Int), (2 : Int)] i (0 : Int)) 4 ∧ small (1 : Int) ∧
 small (1 : Int)) ∧ (true = true → R (SV.bool true)) ∧ (true = false → R SV.ff)) := by kernel_rfl
theorem polyAw : PureOk Tryz.prog 50 polyAwF := by
 refine pure_of_vc gPA Tryz.func50 rfl (by kernel_rfl) ?_
 intro args v p h hp
 unfold polyAwF at h
 split at h
 · injection h with h; injection h with h1 h2; subst h1; subst h2
   clear hp
   refine ⟨rfl, _, _, (vc_polyAw _).mpr ?_⟩
   have s1 : small 1 := by unfold small; omega
   simp only [eq_self, true_and]
   refine ⟨⟨⟨by decide, fun j hj => ?_⟩, s1, s1⟩, fun _ => by simp [eqv], fun h => nomatch h⟩
   have : j = 0 ∨ j = 1 ∨ j = 2 ∨ j = 3 ∨ j = 4 ∨ j = 5 ∨ j = 6 ∨ j = 7 := by omega
   rcases this with rfl | rfl | rfl | rfl | rfl | rfl | rfl | rfl <;> (unfold small; simp)
 · cases h
def kind2 (k : Nat) : List SV → Bool
 | _ :: .agg (.int _ (.ofNat n) :: _) :: _ => Nat.beq n k
 | _ => false
def hole0 : List SV → Bool
 | .agg [_, .nils] :: _ => true
 | .agg [_, _, .nils] :: _ => true
 | _ => false
noncomputable def askQ : Con := swC hole0 (swC (kind2 2) (conR asLn0C) (conR asPo0C)) (swC (kind2 2) (conR asLn1C) (conR asPo1C))
theorem askQ_ok : ConOk Tryz.prog 39 askQ := ConOk.sw (ConOk.sw asLn0 asPo0) (ConOk.sw asLn1 asPo1)
noncomputable def polySh : Con := swC hole0 (conR polySh0C) (conR polySh1C)
theorem polySh_ok : ConOk Tryz.prog 48 polySh := ConOk.sw polySh0 polySh1
noncomputable def GHO : Ctx := ⟨⟨tys, FL⟩, [(19, conR isGeoC), (53, conR isConvexC), (48, polySh), (51, conR polyLnC), (39, askQ), (57, conR allWithinC), (50, pureCon polyAwF)]⟩
theorem gHO : CtxOk Tryz.prog GHO := ⟨⟨tysOk, flOk⟩, GamOk.cons isGeo (GamOk.cons isConvex (GamOk.cons polySh_ok (GamOk.cons polyLn (GamOk.cons askQ_ok (GamOk.cons allWithin (GamOk.cons (.pure polyAw) GamOk.nil)))))), by kernel_rfl⟩
noncomputable def lawHoleC : List SV → RdM
 | [.slcc n lg, .slcc h lh, .slcc m ll, .slcc o lo] => .read n fun o0 => (match intsFrom .i64 o0.c with
   | some (m0, g) => .read h fun o1 => (match intsFrom .i64 o1.c with
   | some (m1, gh) => .read m fun o2 => (match intsFrom .i64 o2.c with
   | some (m2, gl) => .read o fun o3 => (match intsFrom .i64 o3.c with
   | some (m3, go) => .ret ⟨[.slcc 0 lg, .slcc 1 lh, .slcc 2 ll, .slcc 3 lo], [(0, ⟨false, 28, .ints .i64 m0 g, 0⟩), (1, ⟨false, 28, .ints .i64 m1 gh, 0⟩), (2, ⟨false, 28, .ints .i64 m2 gl, 0⟩), (3, ⟨false, 28, .ints .i64 m3 go, 0⟩)], .tt, [], [], some (m0 = 2 * lg ∧ m1 = 2 * lh ∧ m2 = 2 * ll ∧ m3 = 2 * lo ∧ True)⟩
   | none => .fail)
   | none => .fail)
   | none => .fail)
   | none => .fail)
 | _ => .fail
theorem vc_lawHole (lg lh ll lo : Nat)  (g : Nat → Int) (gh : Nat → Int) (gl : Nat → Int) (go : Nat → Int) : runA GHO 4 [] [] (codeOf Tryz.f12) (init Tryz.f12.ntmps [.slcc 0 lg, .slcc 1 lh, .slcc 2 ll, .slcc 3 lo] [(0, ⟨false, 28, .ints .i64 (2 * lg) g, 0⟩), (1, ⟨false, 28, .ints .i64 (2 * lh) gh, 0⟩), (2, ⟨false, 28, .ints .i64 (2 * ll) gl, 0⟩), (3, ⟨false, 28, .ints .i64 (2 * lo) go, 0⟩)] 4) (endK GHO.E.T Tryz.f12.results.toList fun S v => postP 4 ⟨[.slcc 0 lg, .slcc 1 lh, .slcc 2 ll, .slcc 3 lo], [(0, ⟨false, 28, .ints .i64 (2 * lg) g, 0⟩), (1, ⟨false, 28, .ints .i64 (2 * lh) gh, 0⟩), (2, ⟨false, 28, .ints .i64 (2 * ll) gl, 0⟩), (3, ⟨false, 28, .ints .i64 (2 * lo) go, 0⟩)], .tt, [], [], some (2 * lg = 2 * lg ∧ 2 * lh = 2 * lh ∧ 2 * ll = 2 * ll ∧ 2 * lo = 2 * lo ∧ True)⟩ S v) = (
(decide (2147483647 < (↑lg : Int)) = true → True ∧ True) ∧ (decide (2147483647 < (↑lg : Int)) = false → (decide (2147483647 < (↑lh : Int)) = true → True ∧ True) ∧ (decide (2147483647 < (↑lh : Int)) = false → (decide
(2147483647 < (↑ll : Int)) = true → True ∧ True) ∧ (decide (2147483647 < (↑ll : Int)) = false → (decide (2147483647 < (↑lo : Int)) = true → True ∧ True) ∧ (decide (2147483647 < (↑lo : Int)) = false → (decide ((↑lg :
 Int) < (3 : Int)) = true → True ∧ True) ∧ (decide ((↑lg : Int) < 3) = false → (decide (15 < (↑lg : Int)) = true → True ∧ True) ∧ (decide (15 < (↑lg : Int)) = false → (decide (15 < (↑lh : Int)) = true → True ∧ True) ∧
(decide (15 < (↑lh : Int)) = false → (2 * lg = 2 * lg ∧ lg ≤ 1000000) ∧ ((!geoAll (2 * lg) g) = true → True ∧ True) ∧ ((!geoAll (2 * lg) g) = false → (2 * lh
= 2 * lh ∧ lh ≤ 1000000) ∧ ((!geoAll (2 * lh) gh) = true → True ∧ True) ∧ ((!geoAll (2 * lh) gh) = false → (2 * lh = 2 * lh ∧ lh ≤ 1000000 ∧ ∀ (j : Nat), j <
2 * lh → small (gh j)) ∧ ((!isCv gh lh) = true → True ∧ True) ∧ ((!isCv gh lh) = false → (decide ((↑ll : Int) < 2) = true → True ∧ True) ∧ (decide ((↑ll : Int) < 2) = false
→ (decide (15 < (↑ll : Int)) = true → True ∧ True) ∧ (decide (15 < (↑ll : Int)) = false → (decide ((↑lo : Int) < 3) = true → True ∧ True) ∧ (decide ((↑lo : Int) < 3) = false → (decide (15 < (↑lo : Int)) = true
→ True ∧ True) ∧ (decide (15 < (↑lo : Int)) = false → (2 * ll = 2 * ll ∧ ll ≤ 1000000) ∧ ((!geoAll (2 * ll) gl) = true → True ∧ True) ∧ ((!geoAll (2 * ll) gl) = false
→ (2 * lo = 2 * lo ∧ lo ≤ 1000000) ∧ ((!geoAll (2 * lo) go) = true → True ∧ True) ∧ ((!geoAll (2 * lo) go) = false → (2 * lg = 2 * lg ∧ lg ≤ 1000000)
∧ (2 * lg = 2 * lg ∧ 2 * lh = 2 * lh ∧ lg ≤ 1000000 ∧ lh ≤ 1000000) ∧ (2 * ll = 2 * ll ∧ ll ≤ 1000000) ∧ (2 * lg = 2 * lg ∧ 2 * ll = 2 * ll ∧
 PO g lg ∧ PO gl ll) ∧ true = true ∧ (2 * ll = 2 * ll ∧ ll ≤ 1000000) ∧ (2 * lg = 2 * lg ∧ 2 * lh = 2 * lh ∧ 2 * ll = 2 * ll ∧
 PO g lg ∧ PO gh lh ∧ PO gl ll) ∧ true = true ∧ (2 * lo = 2 * lo ∧ lo ≤ 1000000) ∧ (2 * lg = 2 * lg ∧ 2 * lo = 2 * lo ∧ PO
 g lg ∧ PO go lo) ∧ true = true ∧ (2 * lo = 2 * lo ∧ lo ≤ 1000000) ∧ (2 * lg = 2 * lg ∧ 2 * lh = 2 * lh ∧ 2 * lo = 2 * lo ∧ PO g lg ∧
 PO gh lh ∧ PO go lo) ∧ true = true ∧ (vIL g lg gl ll true = true → (2 * lh = 2 * lh ∧ 2 * ll = 2 * ll ∧ (lh ≤ 1000000 ∧ ll ≤ 1000000) ∧ (∀ (j :
 Nat), j < 2 * lh → small (gh j)) ∧ ∀ (j : Nat), j < 2 * ll → small (gl j)) ∧ (((vIL g lg gl ll true && !vC gh lh gl ll false false) == !allB
(awIP gh gl lh) ll) = true → (vIP g lg go lo true = true → (2 * lh = 2 * lh ∧ 2 * lo = 2 * lo ∧ (lh ≤ 1000000 ∧ lo ≤ 1000000) ∧ (∀ (j : Nat), j < 2 * lh →
 small (gh j)) ∧ ∀ (j : Nat), j < 2 * lo → small (go j)) ∧ (((vIP g lg go lo true && !vC gh lh go lo true false) == !allB (awIP gh go
 lh) lo) = true → True ∧ True) ∧ (((vIP g lg go lo true && !vC gh lh go lo true false) == !allB (awIP gh go lh) lo) = false → False ∧ True)) ∧ (vIP g lg go lo
 true = false → (((vIP g lg go lo true && !vC gh lh go lo true false) == false) = true → True ∧ True) ∧ (((vIP g lg go lo true && !vC gh lh go lo true false) == false) = false →
 False ∧ True))) ∧ (((vIL g lg gl ll true && !vC gh lh gl ll false false) == !allB (awIP gh gl lh) ll) = false → False ∧ True)) ∧ (vIL g lg gl ll true = false →
(((vIL g lg gl ll true && !vC gh lh gl ll false false) == false) = true → (vIP g lg go lo true = true → (2 * lh = 2 * lh ∧ 2 * lo = 2 * lo ∧ (lh ≤ 1000000 ∧
 lo ≤ 1000000) ∧ (∀ (j : Nat), j < 2 * lh → small (gh j)) ∧ ∀ (j : Nat), j < 2 * lo → small (go j)) ∧ (((vIP g lg go lo true && !vC gh lh go lo true false)
== !allB (awIP gh go lh) lo) = true → True ∧ True) ∧ (((vIP g lg go lo true && !vC gh lh go lo true false) == !allB (awIP gh go lh) lo) =
 false → False ∧ True)) ∧ (vIP g lg go lo true = false → (((vIP g lg go lo true && !vC gh lh go lo true false) == false) = true → True ∧ True) ∧ (((vIP g lg go lo true &&
!vC gh lh go lo true false) == false) = false → False ∧ True))) ∧ (((vIL g lg gl ll true && !vC gh lh gl ll false false) == false) = false → False ∧ True))))))))))))))))))) := by kernel_rfl
theorem lawHole : ConOk Tryz.prog 12 (conR lawHoleC) := by
 refine con_of_vc gHO Tryz.func12 rfl (by kernel_rfl) fun args => ?_
 unfold lawHoleC
 split
 · rename_i n lg h lh m ll o lo
   intro o0
   show RdM.All _ (match intsFrom .i64 o0.c with | some (m, g) => _ | none => _) _
   split
   · rename_i m0 g hm0
     intro o1
     show RdM.All _ (match intsFrom .i64 o1.c with | some (m, g) => _ | none => _) _
     split
     · rename_i m1 gh hm1
       intro o2
       show RdM.All _ (match intsFrom .i64 o2.c with | some (m, g) => _ | none => _) _
       split
       · rename_i m2 gl hm2
         intro o3
         show RdM.All _ (match intsFrom .i64 o3.c with | some (m, g) => _ | none => _) _
         split
         · rename_i m3 go hm3
           intro ho
           replace ho : m0 = 2 * lg ∧ m1 = 2 * lh ∧ m2 = 2 * ll ∧ m3 = 2 * lo ∧ True := ho
           obtain ⟨hsz0, hsz1, hsz2, hsz3, ho⟩ := ho
           subst hsz0
           subst hsz1
           subst hsz2
           subst hsz3
           refine ⟨?_, _, _, (vc_lawHole lg lh ll lo g gh gl go).mpr ?_⟩
           · refine okFlag_mk rfl ⟨?_, ⟨trivial, (contR_ints hm0).1, ⟨trivial, (contR_ints hm1).1, ⟨trivial, (contR_ints hm2).1, ⟨trivial, (contR_ints hm3).1, trivial⟩⟩⟩⟩⟩
             simp [eqvRL, eqvR, sgSig, fsts, nth, sameN_self]
           · simp only [true_and, and_true, eq_self, implies_true, decide_eq_false_iff_not, Bool.not_eq_false']
             intro a1 a2 a3 a4 a5 a6 a7
             refine ⟨by omega, fun b1 => ⟨by omega, fun b2 => ?_⟩⟩
             have hg := of_decide_eq_true b1
             have hgh := of_decide_eq_true b2
             refine ⟨⟨by omega, hgh⟩, fun a8 a9 a10 a11 a12 => ⟨by omega, fun b3 => ⟨by omega, fun b4 => ?_⟩⟩⟩
             have hgl := of_decide_eq_true b3
             have hgo := of_decide_eq_true b4
             have hp : PO g lg := ⟨by omega, hg⟩
             have hph : PO gh lh := ⟨by omega, hgh⟩
             have hpl : PO gl ll := ⟨by omega, hgl⟩
             have hpo : PO go lo := ⟨by omega, hgo⟩
             have h3 := (cv_parts a8).2.1
             have hv := cv_flag hph a8
             have z1 : vC gh lh gl ll false false = allB (awIP gh gl lh) ll := by
               rw [vC_conv (cl2 := false) hph hpl h3 hv (decide_eq_true ⟨by omega, fun h => by cases h⟩) (by omega)]
               exact allB_congr fun i hi => rfl
             have z2 : vC gh lh go lo true false = allB (awIP gh go lh) lo := by
               rw [vC_conv (cl2 := true) hph hpo h3 hv (decide_eq_true ⟨by omega, fun _ => by omega⟩) (by omega)]
               exact allB_congr fun i hi => rfl
             simp only [z1, z2]
             generalize allB (awIP gh gl lh) ll = A
             generalize allB (awIP gh go lh) lo = B
             generalize vIL g lg gl ll true = C
             generalize vIP g lg go lo true = D
             have o1 : (lh ≤ 1000000 ∧ ll ≤ 1000000) ∧ (∀ j, j < 2 * lh → small (gh j)) ∧ ∀ j, j < 2 * ll → small (gl j) := ⟨⟨by omega, by omega⟩, hgh, hgl⟩
             have o2 : (lh ≤ 1000000 ∧ lo ≤ 1000000) ∧ (∀ j, j < 2 * lh → small (gh j)) ∧ ∀ j, j < 2 * lo → small (go j) := ⟨⟨by omega, by omega⟩, hgh, hgo⟩
             refine ⟨by omega, ⟨by omega, by omega⟩, by omega, ⟨hp, hpl⟩, by omega, ⟨hp, hph, hpl⟩, by omega, ⟨hp, hpo⟩, by omega, ⟨hp, hph, hpo⟩, ?_⟩
             simp only [eq_true o1, eq_true o2]
             cases A <;> cases B <;> cases C <;> cases D <;> simp
         · trivial
       · trivial
     · trivial
   · trivial
 · trivial
end Go.Proofs.Tryz.Sx

namespace Go.Sx
open Go.RowKit Go.ChangeShapes Go.WideShapes Go.ChangeAt
section
variable {H : Type} {enc : TypeId × Value → H} {P : Program}
theorem trodAll_below (hl : laidOutB P = true) {W W' : World} (hb : Below W.heap.size W W') : ∀ {ts : List TypeId} {vs : List Value} {ds : List (DataW H)} {ps : List MemPlace},
   (ts.all fun t => P.readableRec t && decide (t < P.types.size)) = true → DataW.TrodAll enc P W 0 (fun _ => true) true ts vs ds ps → (∀ x ∈ ps, x.block < W.heap.size) →
   DataW.TrodAll enc P W' 0 (fun b => decide (b < W.heap.size)) true ts vs ds ps
 | [], vs, ds, ps, _, h, _ => by
   cases vs <;> cases ds <;> simp_all [DataW.TrodAll]
 | t :: ts, vs, ds, ps, ht, h, hlt => by
   obtain ⟨v, vs', d, ds', p, q, rfl, rfl, rfl, h1, h2⟩ := trodAll_cons h
   simp only [List.all_cons, Bool.and_eq_true, decide_eq_true_eq] at ht
   exact ⟨p, q, Below.trod hl ht.1.1 ht.1.2 h1 hb (fun x hx => hlt x (by simp [hx])), trodAll_below hl hb ht.2 h2 (fun x hx => hlt x (by simp [hx])), rfl⟩
theorem post_true (hl : laidOutB P = true) {f : Func} {s : ChangeSpec} {apart : Bool} {W W' : World} {args : Array Value} {ds : List (DataW H)} {before : List MemPlace}
   (hW : DataW.Whole enc P f.params.toList s.vars apart W args.toList ds [] before) (hb : Below W.heap.size W W') {bt : TypeId} (hbt : P.underlying bt = some .bool) (hr : f.resultTypes = #[bt])
   (hvars : s.vars = []) (hres : (s.fn H (ds ++ [])).results = [.lit (.bool true)]) (hargs : (s.fn H (ds ++ [])).args = ds) (hvs : (s.fn H (ds ++ [])).vars = [])
   (hp : (f.params.toList.all fun t => P.readableRec t && decide (t < P.types.size)) = true) :
   s.post enc P f apart true false false W args (.bool true) W' := by
 have hW' := hW
 obtain ⟨p, q, hA, hV, hpq, _, _⟩ := hW
 rw [hvars] at hV
 obtain ⟨_, rfl⟩ := trodVars_none hV
 rw [List.append_nil] at hpq
 subst hpq
 refine ⟨ds, [], before, [], before, [], hW', ?_, ?_, ?_, hb.frame _, fun h => by cases h⟩
 · rw [hres, hr]
   exact trodAll_mk1 (shut_bool hbt true)
 · rw [hargs]
   exact trodAll_below hl hb hp hA (fun x hx => by simpa using hW'.lt x hx)
 · rw [hvars, hvs]; rfl
end
end Go.Sx

namespace Go.Sx
open Go.RowKit Go.ChangeShapes Go.WideShapes Go.ChangeAt
end Go.Sx

namespace Go.Sx
open Go.RowKit Go.ChangeShapes Go.WideShapes Go.ChangeAt
section
variable {H : Type} {enc : TypeId × Value → H} {P : Program} {W : World} {r : Reach} {b0 : Nat}
def IntsAt (W : World) (a : Option Addr) (cap n : Nat) (g : Nat → Int) : Prop := match a with
 | none => n = 0 ∧ cap = 0
 | some a => a.spot = none ∧ ∀ j, j < n → W.cell? ⟨a.block, a.off + j, none⟩ = some (.int .i64 (g j))
theorem addr_add (a : Addr) (n : Nat) (h : a.spot = none) : a.add n = ⟨a.block, a.off + n, none⟩ := by
 obtain ⟨b, o, s⟩ := a
 simp only at h
 subst h
 exact Addr.add_lit ..
theorem open_pts {t e : TypeId} {f0 f1 : Field} (ht : P.underlying t = some (.slice e)) (he : P.underlying e = some (.struct #[f0, f1])) (ce : P.cellsOf e = 2) (o0 : f0.offset = 0) (o1 : f1.offset = 1)
   (c0 : P.cellsOf f0.type = 1) (c1 : P.cellsOf f1.type = 1) (u0 : P.underlying f0.type = some (.int .i64)) (u1 : P.underlying f1.type = some (.int .i64)) {v : Value} {d : DataW H} {ps : List MemPlace}
   (hv : Value.okWide P W r b0 t v) (hd : DataW.Trod enc P W 0 (fun _ => true) true t v d ps) : ∃ a len cap g, v = .slice a len cap ∧ cap ≤ maxLen ∧ IntsAt W a cap (2 * len) g := by
 obtain ⟨fuel, hf⟩ := hd
 have hok : Cell.okWide P W r b0 t v := by
   unfold Value.okWide at hv
   rw [ht] at hv
   exact hv
 have hvs : v.cells.toList = [v] ∨ ∃ cs, v = .agg cs := by
   cases v <;> first | exact .inr ⟨_, rfl⟩ | exact .inl rfl
 have hvc : v.cells.toList = [v] := by
   rcases hvs with h | ⟨cs, rfl⟩
   · exact h
   · unfold Cell.okWide Cell.ok at hok
     rw [ht] at hok
     exact hok.elim
 rw [hvc] at hf
 rcases Go.Deep.open_slice ht hf with ⟨hcs, _⟩ | ⟨a, len, cap, m, n, D, Pl, hcs, _, hl, hm, hmm, _, hx⟩
 · simp only [List.cons.injEq, and_true] at hcs
   subst hcs
   exact ⟨none, 0, 0, fun _ => 0, rfl, by decide, rfl, rfl⟩
 · simp only [List.cons.injEq, and_true] at hcs
   subst hcs
   have hspot : a.spot = none := by
     unfold Cell.okWide Cell.ok at hok
     rw [ht] at hok
     exact hok.2.2.2.1
   have hcells : ∀ i, i < len → ∃ x y : Int, W.cell? ⟨a.block, a.off + 2 * i, none⟩ = some (.int .i64 x) ∧ W.cell? ⟨a.block, a.off + (2 * i + 1), none⟩ = some (.int .i64 y) := by
     intro i hi
     have hlm : len ≤ m := by rw [hmm]; simpa using hl
     obtain ⟨cs', h1, h2⟩ := hx i (by omega)
     rw [ce] at h1
     obtain ⟨_, hlen, hcell⟩ := World.cells?_some h1
     obtain ⟨xs, k, _, _, _, hxl, hfs⟩ := DataW.trod_struct he h2
     match xs, hxl, cs', hlen with
     | [y0, y1], _, [v0, v1], _ =>
       have g0 := hfs 0 f0 rfl
       have g1 := hfs 1 f1 rfl
       simp [o0, o1, c0, c1] at g0 g1
       have e0 := hcell 0 (by omega)
       have e1 := hcell 1 (by omega)
       obtain ⟨x, hx', _⟩ := DataW.trod_int u0 g0
       obtain ⟨y, hy', _⟩ := DataW.trod_int u1 g1
       simp only [List.cons.injEq, and_true] at hx' hy'
       subst hx' hy'
       refine ⟨x, y, ?_, ?_⟩
       · rw [← show (a.add (i * 2)).add 0 = (⟨a.block, a.off + 2 * i, none⟩ : Addr) by rw [addr_add a _ hspot]; show Addr.mk _ _ _ = _; congr 1; simp; omega]
         simpa using e0
       · rw [← show (a.add (i * 2)).add 1 = (⟨a.block, a.off + (2 * i + 1), none⟩ : Addr) by rw [addr_add a _ hspot]; show Addr.mk _ _ _ = _; congr 1; simp; omega]
         simpa using e1
   obtain ⟨q, hq⟩ : ∃ q : Nat → Int × Int, ∀ i, i < len → W.cell? ⟨a.block, a.off + 2 * i, none⟩ = some (.int .i64 (q i).1) ∧ W.cell? ⟨a.block, a.off + (2 * i + 1), none⟩ = some (.int .i64 (q i).2) := by
     refine ⟨fun i => if h : i < len then ((hcells i h).choose, (hcells i h).choose_spec.choose) else (0, 0), fun i hi => ?_⟩
     simp only [hi, dif_pos]
     exact (hcells i hi).choose_spec.choose_spec
   refine ⟨some a, len, cap, fun j => if j % 2 = 0 then (q (j / 2)).1 else (q (j / 2)).2, rfl, hm, hspot, fun j hj => ?_⟩
   have h2 := hq (j / 2) (by omega)
   by_cases hp : j % 2 = 0
   · have e : j = 2 * (j / 2) := by omega
     simp only [hp, if_pos]
     rw [← h2.1]
     congr 2
     omega
   · simp only [hp, if_false]
     rw [← h2.2]
     congr 2
     omega
end
section
variable {P : Program} {W : World}
theorem hsat_ro {k : Nat} {H : Heap} {ρ : Rho} (hk : ∀ n o, look H n = some o → n < k ∧ o.rw = false ∧ o.c.bd (· < k) ∧ OSat W ρ o (ρ n)) : HSat W (· < W.heap.size) (· < k) H ρ W where
 os := rfl
 tape := rfl
 output := rfl
 size := Nat.le_refl _
 frlt := fun _ h => h
 frame := fun _ _ => rfl
 used := fun n o h => (hk n o h).1
 bd := fun n o h => (hk n o h).2.2.1
 obj := fun n o h => (hk n o h).2.2.2
 inj := fun n _ o _ _ _ h _ _ hr => by rw [(hk n o h).2.1] at hr; cases hr
 free := fun n o _ h hr => by rw [(hk n o h).2.1] at hr; cases hr
theorem HSat.toBelow {U : Nm → Prop} {H : Heap} {ρ : Rho} {W' : World} (h : HSat W (· < W.heap.size) U H ρ W') : Below W.heap.size W W' :=
 ⟨h.os, h.tape, h.output, h.size, fun k hk => h.frame k hk⟩
theorem calls_of_con {f k : Nat} {C : Con} {fn : Func} (h : ConOk P f C) (hf : P.funcs[f]? = some fn) (hb : fn.body.isNone = false) (hnm : (fn.name == "runtime.NumGoroutine") = false)
   {args : List SV} {H : Heap} {ρ : Rho} {e : Eff} (hk : ∀ n o, look H n = some o → n < k ∧ o.rw = false ∧ o.c.bd (· < k) ∧ OSat W ρ o (ρ n)) (ha : bdL (· < k) args)
   (hc : C args (look H) k = some e) (ho : okP e.obl) (hv : e.val = some .tt) :
   Calls P f (denL ρ args).toArray W fun en w' => en = .returned (.bool true) ∧ Below W.heap.size W w' := by
 have := h.calls (hsat_ro hk) ha (fun j _ (h : k + j < k) => absurd h (by omega)) hc ho
 rcases this with ⟨_, h1⟩ | ⟨v', w', h1, _⟩
 · refine h1.mono ?_
   rintro en w' ⟨ρ', _, h2, v, h3, _, rfl⟩
   rw [hv] at h3
   simp only [Option.some.injEq] at h3
   subst h3
   exact ⟨rfl, h2.toBelow⟩
 · simp only [callFunc, Sem.run_bind, run_program, Result.andThen_ok, hf, hnm, hb, Bool.false_eq_true, if_false, Sem.run_pure] at h1
   cases h1
end
def rhoOf (a : Option Addr) (cap : Nat) : Option (Nat × Nat × Nat) := a.map fun a => (a.block, a.off, cap)
theorem osat_ints {W : World} {ρ : Rho} {a : Option Addr} {cap n e : Nat} {g : Nat → Int} (h : IntsAt W a cap n g) : OSat W ρ ⟨false, e, .ints .i64 n g, 0⟩ (rhoOf a cap) := by
 cases a with
 | none => exact h.1
 | some a => exact ⟨fun i hi => h.2 i hi, fun h => by cases h⟩
theorem den_slcc {ρ : Rho} {n : Nm} {a : Option Addr} {cap len m : Nat} {W : World} {g : Nat → Int} (hρ : ρ n = rhoOf a cap) (h : IntsAt W a cap m g) : (SV.slcc n len).den ρ = .slice a len cap := by
 show Value.slice (ρ.addr n 0) len (ρ.cap n) = _
 unfold Rho.addr Rho.cap
 rw [hρ]
 cases a with
 | none => simp [rhoOf, h.2]
 | some a =>
   obtain ⟨b, o, s⟩ := a
   have := h.1
   simp only at this
   subst this
   rfl
end Go.Sx
