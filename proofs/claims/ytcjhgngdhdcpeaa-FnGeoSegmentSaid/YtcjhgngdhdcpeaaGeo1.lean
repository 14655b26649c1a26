/- The law's own functions: IsGeo, GeoOn, GeoLeft, Raycast by whole numbers. -/
import Derived.Test.YtcjhgngdhdcpeaaRay4
import Derived.Test.YtcjhgngdhdcpeaaT5
namespace Go.Proofs.Try.Sx
open Go Go.Sx Go.Proofs Go.Fl Go.Geo
set_option maxRecDepth 100000

/-! ### IsGeo -/
def small (n : Int) : Prop := -1048576 ≤ n ∧ n ≤ 1048576
instance (n : Int) : Decidable (small n) := by unfold small; infer_instance
def geoAll (m : Nat) (g : Nat → Int) : Bool := decide (∀ i, i < m → small (g i))

def isGeoI (len : Nat) (g : Nat → Int) (i : Nat) : St :=
  ⟨30, [(5, .slcc 0 len), (6, .int .i64 len), (7, .int .i64 i)], [(0, ⟨false, 31, .ints .i64 (2 * len) g, 0⟩)], 1⟩

theorem isGeo_run (len : Nat) (g : Nat → Int) (hlen : len ≤ 1000000) (K : St → SV → Prop) (hK : ∀ S, K S (.bool (geoAll (2 * len) g))) (hK1 : geoAll (2 * len) g = true → ∀ S, K S .tt) (hK0 : geoAll (2 * len) g = false → ∀ S, K S .ff) :
  runC G0 1 (codeOf Try.f7) (init 30 [.slcc 0 len] [(0, ⟨false, 31, .ints .i64 (2 * len) g, 0⟩)] 1) (endK G0.E.T Try.f7.results.toList K) := by
  apply LoopOk.mk
  refine ⟨{ i : Nat // i ≤ len ∧ ∀ j, j < 2 * i → small (g j) }, fun i => isGeoI len g i.1, fun i => len - i.1, ⟨0, Nat.zero_le _, fun j hj => by omega⟩, ?_, ?_⟩
  · refine Refines.by_names [] ⟨rfl, rfl, rfl, rfl, ?_, ?_⟩
    · exact ⟨⟨rfl, trivial, rfl⟩, ⟨rfl, rfl⟩, ⟨rfl, rfl⟩, trivial⟩
    · exact ⟨⟨rfl, trivial, Nat.le_refl _, fun _ _ => rfl⟩, trivial⟩
  · rintro ⟨i, hi, hs⟩
    have bad : ∀ j, j < 2 * len → ¬ small (g j) → geoAll (2 * len) g = false := fun j hj hb => decide_eq_false (fun h => hb (h j hj))
    refine And.intro ?_ ?_
    · intro h
      have h : (i : Int) < len := of_decide_eq_true h
      have h0 : 0 + ((i : Int)).toNat * 2 = 2 * i := by omega
      refine And.intro (And.intro (And.intro (Int.natCast_nonneg _) h) (show 0 < 2 * len by omega)) ?_
      refine And.intro (show 0 + ((i : Int)).toNat * 2 + 2 ≤ 2 * len by omega) ?_
      have b0 := bad (2 * i) (by omega)
      have b1 := bad (2 * i + 1) (by omega)
      refine And.intro ?_ ?_
      · intro h1
        have h1 : g (0 + ((i : Int)).toNat * 2) < -1048576 := of_decide_eq_true h1
        rw [h0] at h1
        exact hK0 (b0 (fun hh => by unfold small at hh; omega)) _
      · intro h1
        have h1 : ¬ g (0 + ((i : Int)).toNat * 2) < -1048576 := of_decide_eq_false h1
        refine And.intro ?_ ?_
        · intro h2
          have h2 : 1048576 < g (0 + ((i : Int)).toNat * 2) := of_decide_eq_true h2
          rw [h0] at h2
          exact hK0 (b0 (fun hh => by unfold small at hh; omega)) _
        · intro h2
          have h2 : ¬ 1048576 < g (0 + ((i : Int)).toNat * 2) := of_decide_eq_false h2
          refine And.intro ?_ ?_
          · intro h3
            have h3 : g (0 + ((i : Int)).toNat * 2 + 1) < -1048576 := of_decide_eq_true h3
            rw [h0] at h3
            exact hK0 (b1 (fun hh => by unfold small at hh; omega)) _
          · intro h3
            have h3 : ¬ g (0 + ((i : Int)).toNat * 2 + 1) < -1048576 := of_decide_eq_false h3
            refine And.intro ?_ ?_
            · intro h4
              have h4 : 1048576 < g (0 + ((i : Int)).toNat * 2 + 1) := of_decide_eq_true h4
              rw [h0] at h4
              exact hK0 (b1 (fun hh => by unfold small at hh; omega)) _
            · intro h4
              have h4 : ¬ 1048576 < g (0 + ((i : Int)).toNat * 2 + 1) := of_decide_eq_false h4
              rw [h0] at h1 h2 h3 h4
              refine ⟨⟨i + 1, by omega, fun j hj => ?_⟩, by show len - (i + 1) < len - i; omega, Refines.by_names [] ⟨rfl, rfl, rfl, rfl, ?_, ?_⟩⟩
              · have : j < 2 * i ∨ j = 2 * i ∨ j = 2 * i + 1 := by omega
                rcases this with h | rfl | rfl
                · exact hs j h
                · unfold small; omega
                · unfold small; omega
              · refine ⟨⟨rfl, trivial, rfl⟩, ⟨rfl, rfl⟩, ⟨rfl, ?_⟩, trivial⟩
                show IntKind.i64.wrap ((i : Int) + 1) = ((i + 1 : Nat) : Int)
                rw [wrap64 (by omega) (by omega)]; omega
              · exact ⟨⟨rfl, trivial, Nat.le_refl _, fun _ _ => rfl⟩, trivial⟩
    · intro h
      have h : ¬ ((i : Int) < len) := of_decide_eq_false h
      have : i = len := by omega
      subst this
      exact hK1 (decide_eq_true hs) _

def isGeoC : List SV → RdM
  | [.slcc n len] => .read n fun o => match intsFrom .i64 o.c with
    | some (m, g) => .ret ⟨[.slcc 0 len], [(0, ⟨false, 31, .ints .i64 m g, 0⟩)], .bool (geoAll m g), [], [], some (m = 2 * len ∧ len ≤ 1000000)⟩
    | none => .fail
  | _ => .fail

theorem isGeo : ConOk Try.prog 7 (conR isGeoC) := by
  refine conR_ok g0 Try.func7 rfl (by kernel_rfl) fun args => ?_
  unfold isGeoC
  split
  · rename_i n len
    intro o
    show RdM.All _ (match intsFrom .i64 o.c with | some (m, g) => _ | none => _) _
    split
    · rename_i m g hm
      rintro ⟨h1, h2⟩
      subst h1
      refine ⟨?_, rfl, rfl, ?_, rfl, rfl, rfl, ?_⟩
      · exact ⟨⟨sameN_self, rfl⟩, trivial⟩
      · exact ⟨rfl, trivial, (contR_ints hm).1, trivial⟩
      · exact isGeo_run len g h2 _ (fun S => ⟨[], rfl, rfl, trivial, rfl⟩) (fun h S => ⟨[], h, rfl, trivial, rfl⟩) (fun h S => ⟨[], h, rfl, trivial, rfl⟩)
    · trivial
  · trivial

end Go.Proofs.Try.Sx
