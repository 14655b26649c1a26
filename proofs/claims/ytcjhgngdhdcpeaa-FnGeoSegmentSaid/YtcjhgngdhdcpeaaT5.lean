/- geoOf: points as the specification has them; whether points are in the limits. -/
import Derived.Test.YtcjhgngdhdcpeaaT1
import Derived.Test.YtcjhgngdhdcpeaaSx26
import Derived.Test.YtcjhgngdhdcpeaaSx27
import Derived.KernelRfl
namespace Go.Proofs.Try.Sx
open Go Go.Sx Go.Proofs
set_option maxRecDepth 100000

def G0 : Ctx := ⟨⟨tys, []⟩, []⟩
theorem g0 : CtxOk Try.prog G0 := ⟨⟨tysOk, FlatsOk.nil⟩, GamOk.nil, by kernel_rfl⟩

def geoOfL (len : Nat) (g : Nat → Int) : Fam := ⟨Nat, fun i =>
  ⟨18, [(3, .slcc 1 i), (6, .slcc 0 len), (7, .int .i64 len), (8, .int .i64 i)], [(0, ⟨false, 23, .ints .i64 (2 * len) g, 0⟩), (1, ⟨true, 31, .ints .i64 (2 * i) g, 2⟩)], 2⟩, fun i => i ≤ len, fun i => len - i⟩

theorem more_two {i : Nat} {g : Nat → Int} {x y : Int} (hx : x = g (2 * i)) (hy : y = g (2 * i + 1)) : ∀ j, j < 2 * (i + 1) → more (2 * i) g [x, y] 0 j = g j := by
  intro j hj
  subst hx hy
  unfold more
  split
  · rfl
  · have : j = 2 * i ∨ j = 2 * i + 1 := by omega
    rcases this with rfl | rfl <;> simp

noncomputable def geoOfC : List SV → RdM
  | [.slcc n len] => .read n fun o0 => (match intsFrom .i64 o0.c with
    | some (m0, g) => .ret ⟨[.slcc 0 len], [(0, ⟨false, 23, .ints .i64 m0 g, 0⟩)], .slcc 1 len, [], [(1, ⟨true, 31, .ints .i64 (2 * len) g, 2⟩)], some (m0 = 2 * len ∧ len ≤ 1000000)⟩
    | none => .fail)
  | _ => .fail
theorem vc_geoOf (len : Nat) (g : Nat → Int) : runA G0 1 [(3, geoOfL len g)] [] (codeOf Try.f6) (init Try.f6.ntmps [.slcc 0 len] [(0, ⟨false, 23, .ints .i64 (2 * len) g, 0⟩)] 1) (endK G0.E.T Try.f6.results.toList fun S v => postP 1 ⟨[.slcc 0 len], [(0, ⟨false, 23, .ints .i64 (2 * len) g, 0⟩)], .slcc 1 len, [], [(1, ⟨true, 31, .ints .i64 (2 * len) g, 2⟩)], some (2 * len = 2 * len ∧ len ≤ 1000000)⟩ S v) = (
  (∃ (i : Nat),
      i ≤ len ∧
        (i = (0 : Nat) ∧ (True ∧ len = len) ∧ (↑len : Int) = (↑len : Int) ∧ (0 : Int) = (↑i : Int) ∧ True) ∧
          True ∧
            ((2 : Nat) * len ≤ (2 : Nat) * len ∧ ∀ (i : Nat), i < (2 : Nat) * len → g i = g i) ∧
              True ∧ (2 : Nat) * i = (0 : Nat) ∧ True) ∧
    ∀ (i : Nat),
      i ≤ len →
        (Decidable.decide ((↑i : Int) < (↑len : Int)) = Bool.true →
            (((0 : Int) ≤ (↑i : Int) ∧ (↑i : Int) < (↑len : Int)) ∧ (1 : Nat) ≤ (2 : Nat) * len) ∧
              (0 : Nat) + Int.toNat (↑i : Int) * (2 : Nat) + (2 : Nat) ≤ (2 : Nat) * len ∧
                ((2 : Nat) * i = i * (2 : Nat) ∧
                    (i + (1 : Nat)) * (16 : Nat) ≤ (140737488355328 : Nat) ∧
                      i + (1 : Nat) ≤ (9223372036854775807 : Nat)) ∧
                  ∃ (i' : Nat),
                    i' ≤ len ∧
                      len - i' < len - i ∧
                        ((True ∧ i + (1 : Nat) = i') ∧
                            (True ∧ len = len) ∧
                              (↑len : Int) = (↑len : Int) ∧
                                Go.IntKind.wrap Go.IntKind.i64 ((↑i : Int) + (1 : Int)) = (↑i' : Int) ∧ True) ∧
                          True ∧
                            ((2 : Nat) * len ≤ (2 : Nat) * len ∧ ∀ (i : Nat), i < (2 : Nat) * len → g i = g i) ∧
                              True ∧
                                ((31 : Nat) = (31 : Nat) ∧
                                    (2 : Nat) = (2 : Nat) ∧
                                      (2 : Nat) * i' ≤
                                          (2 : Nat) * i +
                                            List.length
                                              [g ((0 : Nat) + Int.toNat (↑i : Int) * (2 : Nat)),
                                                g ((0 : Nat) + Int.toNat (↑i : Int) * (2 : Nat) + (1 : Nat))] ∧
                                        ∀ (i_1 : Nat),
                                          i_1 < (2 : Nat) * i' →
                                            Go.Sx.more ((2 : Nat) * i) g
                                                [g ((0 : Nat) + Int.toNat (↑i : Int) * (2 : Nat)),
                                                  g ((0 : Nat) + Int.toNat (↑i : Int) * (2 : Nat) + (1 : Nat))]
                                                (0 : Int) i_1 =
                                              g i_1) ∧
                                  True) ∧
          (Decidable.decide ((↑i : Int) < (↑len : Int)) = Bool.false →
            (True ∧ i = len) ∧
              True ∧
                ((31 : Nat) = (31 : Nat) ∧
                    (2 : Nat) = (2 : Nat) ∧
                      (2 : Nat) * len ≤ (2 : Nat) * i ∧ ∀ (i : Nat), i < (2 : Nat) * len → g i = g i) ∧
                  True)) := by kernel_rfl
theorem geoOf : ConOk Try.prog 6 (conR geoOfC) := by
  refine con_of_vc g0 Try.func6 rfl (by kernel_rfl) fun args => ?_
  unfold geoOfC
  split
  · rename_i n len
    intro o0
    show RdM.All _ (match intsFrom .i64 o0.c with | some (m, g) => _ | none => _) _
    split
    · rename_i m0 g hm0
      intro ho
      replace ho : m0 = 2 * len ∧ len ≤ 1000000 := ho
      obtain ⟨hsz0, ho⟩ := ho
      subst hsz0
      refine ⟨?_, _, _, (vc_geoOf len g).mpr ?_⟩
      · refine okFlag_mk rfl ⟨?_, ⟨trivial, (contR_ints hm0).1, trivial⟩⟩
        simp [eqvRL, eqvR, kEq_self, fkEq_self, sgSig, fsts, nth, sameN_self]
      · refine ⟨⟨0, by simp⟩, fun i hi => ⟨fun h => ?_, fun h => ?_⟩⟩
        · have h := of_decide_eq_true h
          have e : 0 + (i : Int).toNat * 2 = 2 * i := by omega
          refine ⟨by omega, by omega, by omega, i + 1, by omega, by omega, ⟨⟨trivial, rfl⟩, ⟨trivial, rfl⟩, rfl, ?_, trivial⟩, trivial, ⟨Nat.le_refl _, fun _ _ => rfl⟩, trivial, ⟨rfl, rfl, ?_, ?_⟩, trivial⟩
          · rw [wrap64 (by omega) (by omega)]; omega
          · show 2 * (i + 1) ≤ 2 * i + 2
            omega
          · exact more_two (by rw [e]) (by rw [e])
        · have h := of_decide_eq_false h
          have : i = len := by omega
          subst this
          exact ⟨⟨trivial, rfl⟩, trivial, ⟨rfl, rfl, Nat.le_refl _, fun _ _ => rfl⟩, trivial⟩
    · trivial
  · trivial
end Go.Proofs.Try.Sx
