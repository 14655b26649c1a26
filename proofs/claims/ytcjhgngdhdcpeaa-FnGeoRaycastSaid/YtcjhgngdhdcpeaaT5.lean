import Derived.Test.YtcjhgngdhdcpeaaT1
import Derived.Test.YtcjhgngdhdcpeaaSx24
namespace Go.Proofs.Try.Sx
open Go Go.Sx Go.Proofs
set_option maxRecDepth 100000

def G0 : Ctx := ⟨⟨tys, []⟩, []⟩
theorem g0 : CtxOk Try.prog G0 := ⟨⟨tysOk, FlatsOk.nil⟩, GamOk.nil, by kernel_rfl⟩

def geoOfI (len cap : Nat) (g : Nat → Int) (i : Nat) : St :=
  ⟨18, [(3, .slcc 1 i), (6, .slc 0 0 len cap), (7, .int .i64 len), (8, .int .i64 i)], [(0, ⟨false, 23, .ints .i64 (2 * len) g, 0⟩), (1, ⟨true, 31, .ints .i64 (2 * i) g, 2⟩)], 2⟩

theorem geoOf_run (len cap : Nat) (g : Nat → Int) (hlen : len ≤ 1000000) (K : St → SV → Prop)
  (hK : ∀ S, S.H = [(0, ⟨false, 23, .ints .i64 (2 * len) g, 0⟩), (1, ⟨true, 31, .ints .i64 (2 * len) g, 2⟩)] → K S (.slcc 1 len)) :
  runC G0 1 (codeOf Try.f6) (init 18 [.slc 0 0 len cap] [(0, ⟨false, 23, .ints .i64 (2 * len) g, 0⟩)] 1) (endK G0.E.T Try.f6.results.toList K) := by
  apply LoopOk.mk
  refine ⟨{ i : Nat // i ≤ len }, fun i => geoOfI len cap g i.1, fun i => len - i.1, ⟨0, Nat.zero_le _⟩, ?_, ?_⟩
  · refine Refines.auto ⟨rfl, rfl, rfl, rfl, ?_, ?_⟩
    · exact ⟨⟨rfl, rfl⟩, ⟨rfl, trivial, rfl, rfl, rfl⟩, ⟨rfl, rfl⟩, ⟨rfl, rfl⟩, trivial⟩
    · exact ⟨⟨rfl, trivial, Nat.le_refl _, fun _ _ => rfl⟩, ⟨rfl, trivial, rfl⟩, trivial⟩
  · rintro ⟨i, hi⟩
    refine And.intro ?_ ?_
    · intro h
      have h : (i : Int) < len := of_decide_eq_true h
      repeat' (refine And.intro ?_ ?_)
      · exact Int.natCast_nonneg _
      · exact h
      · exact show 0 < 2 * len by omega
      · show 0 + ((i : Int)).toNat * 2 + 2 ≤ 2 * len
        omega
      · show 2 * i = i * 2
        omega
      · show (i + 1) * 16 ≤ 140737488355328
        omega
      · show i + 1 ≤ maxLen
        simp only [maxLen]; omega
      · refine ⟨⟨i + 1, by omega⟩, by show len - (i + 1) < len - i; omega, Refines.auto ⟨rfl, rfl, rfl, rfl, ?_, ?_⟩⟩
        · refine ⟨⟨rfl, trivial, rfl⟩, ⟨rfl, trivial, rfl, rfl, rfl⟩, ⟨rfl, rfl⟩, ⟨rfl, ?_⟩, trivial⟩
          show IntKind.i64.wrap ((i : Int) + 1) = ((i + 1 : Nat) : Int)
          rw [wrap64 (by omega) (by omega)]; omega
        · refine ⟨⟨rfl, trivial, Nat.le_refl _, fun _ _ => rfl⟩, ⟨rfl, trivial, rfl, rfl, ?_, ?_⟩, trivial⟩
          · show 2 * (i + 1) ≤ 2 * i + 2
            omega
          · intro j hj
            show more (2 * i) g [g (0 + ((i : Int)).toNat * 2), g (0 + ((i : Int)).toNat * 2 + 1)] 0 j = g j
            have hj : j < 2 * (i + 1) := hj
            unfold more
            split
            · rfl
            · have : j = 2 * i ∨ j = 2 * i + 1 := by omega
              have h2 : 0 + ((i : Int)).toNat * 2 = 2 * i := by omega
              rcases this with rfl | rfl
              · rw [h2]; simp
              · rw [h2]; simp
    · intro h
      have h : ¬ ((i : Int) < len) := of_decide_eq_false h
      have : i = len := by omega
      subst this
      exact hK _ rfl
def geoOfC : List SV → RdM
  | [.slc n 0 len cap] => .read n fun o => match intsFrom .i64 o.c with
    | some (m, g) => .ret ⟨[.slc 0 0 len cap], [(0, ⟨false, 23, .ints .i64 m g, 0⟩)], .slcc 1 len, [], [(1, ⟨true, 31, o.c, 2⟩)], some (m = 2 * len ∧ len ≤ 1000000)⟩
    | none => .fail
  | _ => .fail

theorem geoOf : ConOk Try.prog 6 (conR geoOfC) := by
  refine conR_ok g0 Try.func6 rfl (by kernel_rfl) fun args => ?_
  unfold geoOfC
  split
  · rename_i n len cap
    intro o
    show RdM.All _ (match intsFrom .i64 o.c with | some (m, g) => _ | none => _) _
    split
    · rename_i m g hm
      rintro ⟨h1, h2⟩
      subst h1
      obtain ⟨h3, h4, h5⟩ := contR_ints (σ := fun _ => none) hm
      refine ⟨?_, rfl, rfl, ?_, rfl, rfl, rfl, ?_⟩
      · exact ⟨⟨sameN_self, rfl, rfl, rfl⟩, trivial⟩
      · exact ⟨rfl, trivial, (contR_ints hm).1, trivial⟩
      · refine geoOf_run len cap g h2 _ fun S hS => ⟨[some 1], ⟨trivial, rfl⟩, rfl, ?_, rfl⟩
        rw [hS]
        exact ⟨⟨rfl, h5 _, rfl, rfl, (contR_ints hm).2.1⟩, trivial⟩
    · trivial
  · trivial
end Go.Proofs.Try.Sx
