/- Segment.Raycast. -/
import Derived.Test.YtcjhgngdhdcpeaaM1
import Derived.Test.YtcjhgngdhdcpeaaSx25
import Derived.Test.YtcjhgngdhdcpeaaFl7
import Derived.Test.YtcjhgngdhdcpeaaRi
namespace Go.Proofs.Try.Sx
open Go Go.Sx Go.Proofs Go.Fl Go.Geo
set_option maxRecDepth 100000

theorem flat61 : FlatEq Try.prog 61 [true, true] :=
  (fe_struct2 tysOk (t := 61) (e0 := 37) (e1 := 37) Try.underlying61 (by kernel_rfl) (by decide) (by decide) ⟨rfl, rfl⟩ ⟨rfl, rfl⟩ (by rfl) (by rfl) rfl rfl).flat (by kernel_rfl) (by decide)

def GR : Ctx := ⟨⟨tys, [(61, [true, true])]⟩, [(55, pureCon nextF), (56, pureCon infF)]⟩
theorem gR : CtxOk Try.prog GR := ⟨⟨tysOk, FlatsOk.cons flat61 FlatsOk.nil⟩, GamOk.cons (.pure next) (GamOk.cons (.pure inf) GamOk.nil), by kernel_rfl⟩

/-- The state between the tests: the result, the point, the ends. -/
def SR (px py ax ay bx by' : Nat) : St :=
  ⟨302, [(4, .ptr 0 0), (5, .ptr 1 0), (6, .ptr 2 0), (7, .ptr 3 0)],
    [(0, ⟨true, 59, .cells [.ff, .ff], 0⟩), (1, ⟨true, 61, .cells [.flt .f64 px, .flt .f64 py], 0⟩), (2, ⟨true, 61, .cells [.flt .f64 ax, .flt .f64 ay], 0⟩), (3, ⟨true, 61, .cells [.flt .f64 bx, .flt .f64 by'], 0⟩)], 4⟩

/-- What is asked at the end: these two words. -/
def KR (i o : Bool) : Xt → St → Prop := endK GR.E.T Try.f29.results.toList fun _ v => eqv v (.agg [.bool i, .bool o])

def p1 : Code → Code
  | .seq x _ => x
  | c => c
def p2 : Code → Code
  | .seq _ y => y
  | c => c
noncomputable def c0 : Code := codeOf Try.f29
noncomputable def c2 : Code := p2 (p2 c0)     -- behind the first two regions
noncomputable def c3 : Code := p2 c2
noncomputable def c4 : Code := p2 c3
noncomputable def c5 : Code := p2 c4
noncomputable def c6 : Code := p2 c5          -- the loop and what follows
noncomputable def c7 : Code := p2 c6
noncomputable def c8 : Code := p2 c7
noncomputable def c9 : Code := p2 c8
noncomputable def c10 : Code := p2 c9

theorem Wp.refines {P : Program} {N0 : Nat} {S S1 : St} {K : Xt → St → Prop} {c : Code} (hr : Refines N0 S S1) (h : Wp P N0 c S1 K) : Wp P N0 c S K := by
  intro W0 Fr ρ0 ρ a w Q hS hN hρ hK
  obtain ⟨ρ', h1, h2⟩ := hr.2 W0 Fr ρ a w hS
  exact h W0 Fr ρ0 ρ' a w Q h1 hr.1 (fun n hn => (h2 n hn).trans (hρ n hn)) hK

set_option maxHeartbeats 4000000 in
theorem start (ax ay bx by' px py : Nat) (i o : Bool) (h : Wp Try.prog 0 c2 (SR px py ax ay bx by') (KR i o)) :
    Wp Try.prog 0 c0 (init 302 [.agg [.flt .f64 ax, .flt .f64 ay, .flt .f64 bx, .flt .f64 by'], .agg [.flt .f64 px, .flt .f64 py]] [] 0) (KR i o) := by
  refine Wp.seq (K1 := fun e S' => match e with
    | .normal => Wp Try.prog 0 (p2 c0) S' (KR i o)
    | _ => False) (Wp.run gR ?_) (fun S' h' => h') (fun _ _ h => h.elim) (fun _ h => h.elim)
  show Wp Try.prog 0 (p2 c0) _ (KR i o)
  refine Wp.seq (K1 := fun e S' => match e with
    | .normal => Refines 0 S' (SR px py ax ay bx by')
    | _ => False) (Wp.run gR ?_) (fun S' h' => Wp.refines h' h) (fun _ _ h => h.elim) (fun _ h => h.elim)
  refine And.intro ?_ ?_
  · kernel_rfl
  · show Refines 0 _ (SR px py ax ay bx by')
    refine Refines.by_names [(0, some 8), (1, some 32), (2, some 36), (3, some 40)] ⟨rfl, rfl, rfl, rfl, ?_, ?_⟩
    · exact ⟨⟨rfl, trivial, rfl⟩, ⟨rfl, trivial, rfl⟩, ⟨rfl, trivial, rfl⟩, ⟨rfl, trivial, rfl⟩, trivial⟩
    · exact ⟨⟨rfl, rfl, rfl, rfl, trivial, trivial, trivial⟩, ⟨rfl, rfl, rfl, rfl, rfl, rfl, trivial⟩, ⟨rfl, rfl, rfl, rfl, rfl, rfl, trivial⟩, ⟨rfl, rfl, rfl, rfl, rfl, rfl, trivial⟩, trivial⟩

structure Pts (ax ay bx by' px py : Nat) (a1 a2 b1 b2 p1 p2 : Int) : Prop where
  ax : FI ax a1
  ay : FI ay a2
  bx : FI bx b1
  by' : FI by' b2
  px : FI px p1
  py : FI py p2
  ha1 : a1.natAbs ≤ 2 ^ 22
  ha2 : a2.natAbs ≤ 2 ^ 22
  hb1 : b1.natAbs ≤ 2 ^ 22
  hb2 : b2.natAbs ≤ 2 ^ 22
  hp1 : p1.natAbs ≤ 2 ^ 22
  hp2 : p2.natAbs ≤ 2 ^ 22

section
variable {ax ay bx by' px py : Nat} {a1 a2 b1 b2 p1 p2 : Int} (H : Pts ax ay bx by' px py a1 a2 b1 b2 p1 p2)
include H

/-- What is to come out. -/
abbrev KK (a1 a2 b1 b2 p1 p2 : Int) : Xt → St → Prop := KR (decide (¬ On a1 a2 b1 b2 p1 p2 ∧ Lft a1 a2 b1 b2 p1 p2)) (decide (On a1 a2 b1 b2 p1 p2))

set_option maxHeartbeats 4000000 in
theorem cut1 (h : ((a2 < b2 → a2 ≤ p2 ∧ p2 ≤ b2) ∧ (b2 < a2 → b2 ≤ p2 ∧ p2 ≤ a2)) → Wp Try.prog 0 c3 (SR px py ax ay bx by') (KK a1 a2 b1 b2 p1 p2)) :
    Wp Try.prog 0 c2 (SR px py ax ay bx by') (KK a1 a2 b1 b2 p1 p2) := by
  refine Wp.keep _ (Wp.run gR ?_) h
  have e1 := flt_I H.ay H.by'
  have e2 := flt_I H.py H.ay
  have e3 := fgt_I H.py H.by'
  have e4 := fgt_I H.ay H.by'
  have e5 := flt_I H.py H.by'
  have e6 := fgt_I H.py H.ay
  repeat' (first | (intro h) | (refine And.intro ?_ ?_))
  all_goals try simp only [e1, e2, e3, e4, e5, e6, decide_eq_true_eq, decide_eq_false_iff_not] at *
  all_goals first
    | exact trivial
    | exact ⟨rfl, rfl, rfl, rfl, rfl⟩
    | omega
    | exact decide_eq_false (fun hh => by unfold On btw at hh; omega)
    | exact decide_eq_false (fun hh => by unfold Lft at hh; omega)

set_option maxHeartbeats 4000000 in
theorem cut2 (f1 : (a2 < b2 → a2 ≤ p2 ∧ p2 ≤ b2) ∧ (b2 < a2 → b2 ≤ p2 ∧ p2 ≤ a2)) (h : (a2 = b2 → a1 ≠ b1 ∧ (p2 = b2 → ¬ btw a1 b1 p1)) → Wp Try.prog 0 c4 (SR px py ax ay bx by') (KK a1 a2 b1 b2 p1 p2)) :
    Wp Try.prog 0 c3 (SR px py ax ay bx by') (KK a1 a2 b1 b2 p1 p2) := by
  refine Wp.keep _ (Wp.run gR ?_) h
  have e1 := feq_I H.ay H.by'
  have e2 := feq_I H.ax H.bx
  have e3 := feq_I H.px H.ax
  have e3' := feq_I H.py H.ay
  have e4 := feq_I H.py H.by'
  have e5 := flt_I H.ax H.bx
  have e6 := fge_I H.px H.ax
  have e7 := fle_I H.px H.bx
  have e8 := fge_I H.px H.bx
  have e9 := fle_I H.px H.ax
  have l1 : a2 = b2 → p2 = b2 → cross a1 a2 b1 b2 p1 p2 = 0 := fun x y => by subst x; subst y; unfold cross; simp
  have l2 : a2 = b2 → a1 = b1 → cross a1 a2 b1 b2 p1 p2 = 0 := fun x y => by subst x; subst y; unfold cross; simp
  clear h
  repeat' (first | (intro h) | (refine And.intro ?_ ?_))
  all_goals try simp only [e1, e2, e3, e3', e4, e5, e6, e7, e8, e9, decide_eq_true_eq, decide_eq_false_iff_not, Bool.and_eq_true, Bool.and_true, Bool.and_eq_false_imp] at *
  all_goals first
    | exact trivial
    | exact ⟨rfl, rfl, rfl, rfl, rfl⟩
    | omega
    | (unfold btw at *; omega)
    | exact decide_eq_false (fun hh => by unfold On btw at hh; omega)
    | exact decide_eq_false (fun hh => by unfold Lft at hh; omega)
    | exact decide_eq_true (by unfold On btw; omega)
    | exact decide_eq_false (fun hh => hh.1 (by unfold On btw; omega))

set_option maxHeartbeats 4000000 in
theorem cut3 (f1 : (a2 < b2 → a2 ≤ p2 ∧ p2 ≤ b2) ∧ (b2 < a2 → b2 ≤ p2 ∧ p2 ≤ a2)) (f2 : a2 = b2 → a1 ≠ b1 ∧ (p2 = b2 → ¬ btw a1 b1 p1)) (h : (a1 = b1 → p1 ≠ b1) → Wp Try.prog 0 c5 (SR px py ax ay bx by') (KK a1 a2 b1 b2 p1 p2)) :
    Wp Try.prog 0 c4 (SR px py ax ay bx by') (KK a1 a2 b1 b2 p1 p2) := by
  refine Wp.keep _ (Wp.run gR ?_) h
  have e1 := feq_I H.ax H.bx
  have e2 := feq_I H.px H.bx
  have e3 := flt_I H.ay H.by'
  have e4 := fge_I H.py H.ay
  have e5 := fle_I H.py H.by'
  have e6 := fge_I H.py H.by'
  have e7 := fle_I H.py H.ay
  have l1 : a1 = b1 → p1 = b1 → cross a1 a2 b1 b2 p1 p2 = 0 := fun x y => by subst x; subst y; unfold cross; simp
  clear h
  repeat' (first | (intro h) | (refine And.intro ?_ ?_))
  all_goals try simp only [e1, e2, e3, e4, e5, e6, e7, decide_eq_true_eq, decide_eq_false_iff_not] at *
  all_goals first
    | exact trivial
    | exact ⟨rfl, rfl, rfl, rfl, rfl⟩
    | omega
    | exact decide_eq_true (by unfold On btw; omega)
    | exact decide_eq_false (fun hh => hh.1 (by unfold On btw; omega))

set_option maxHeartbeats 4000000 in
theorem cut4 (f1 : (a2 < b2 → a2 ≤ p2 ∧ p2 ≤ b2) ∧ (b2 < a2 → b2 ≤ p2 ∧ p2 ≤ a2)) (f2 : a2 = b2 → a1 ≠ b1 ∧ (p2 = b2 → ¬ btw a1 b1 p1)) (f3 : a1 = b1 → p1 ≠ b1)
    (h : ¬ On a1 a2 b1 b2 p1 p2 → Wp Try.prog 0 c6 (SR px py ax ay bx by') (KK a1 a2 b1 b2 p1 p2)) :
    Wp Try.prog 0 c5 (SR px py ax ay bx by') (KK a1 a2 b1 b2 p1 p2) := by
  refine Wp.keep _ (Wp.run gR ?_) h
  clear h
  obtain ⟨s1, d1⟩ := sub_I H.px H.ax H.hp1 H.ha1
  obtain ⟨s2, d2⟩ := sub_I H.bx H.ax H.hb1 H.ha1
  obtain ⟨s3, d3⟩ := sub_I H.py H.ay H.hp2 H.ha2
  obtain ⟨s4, d4⟩ := sub_I H.by' H.ay H.hb2 H.ha2
  -- what the test says
  have key : ∀ r q, QuoRel .f64 (fop .sub .f64 px ax) (fop .sub .f64 bx ax) r → QuoRel .f64 (fop .sub .f64 py ay) (fop .sub .f64 by' ay) q → (fEq .f64 r q = true ↔ On a1 a2 b1 b2 p1 p2) := by
    intro r q hr hq
    have hb := H.ha1
    have hb' := H.ha2
    have hb'' := H.hb1
    have hb''' := H.hb2
    have hc := H.hp1
    have hc' := H.hp2
    by_cases hv : b1 - a1 = 0
    · rw [hv] at d2
      have h4 : b2 - a2 ≠ 0 := by omega
      obtain ⟨g1, _⟩ := quo_fin hq d3 d4 h4 (by omega) (by omega)
      rw [(quo_inf hr d1 (by omega) d2 g1).1]
      constructor
      · intro h; cases h
      · intro h; unfold On btw at h; omega
    · obtain ⟨g1, g2⟩ := quo_fin hr d1 d2 hv (by omega) (by omega)
      by_cases hw : b2 - a2 = 0
      · rw [hw] at d4
        have hne : fEq .f64 r q = false := by
          by_cases hz : p2 - a2 = 0
          · rw [hz] at d3
            exact (quo_nan hq d3 d4).2
          · exact (quo_inf hq d3 hz d4 g1).2
        rw [hne]
        constructor
        · intro h; cases h
        · intro h; unfold On at h; unfold btw at h f2; omega
      · obtain ⟨g3, g4⟩ := quo_fin hq d3 d4 hw (by omega) (by omega)
        rw [feq_V g1 g3, decide_eq_true_eq, QV_iff g2 g4 hv hw ?_ ?_]
        · have hcross : cross a1 a2 b1 b2 p1 p2 = (p2 - a2) * (b1 - a1) - (p1 - a1) * (b2 - a2) := by
            unfold cross; rw [Int.mul_comm (b1 - a1), Int.mul_comm (b2 - a2)]
          constructor
          · intro h
            have h0 : cross a1 a2 b1 b2 p1 p2 = 0 := by omega
            rcases Int.lt_or_le a2 b2 with hlt | hge
            · exact ⟨btw_of_line hlt (by omega) (by omega) h0, by unfold btw; omega, h0⟩
            · have hlt : b2 < a2 := by omega
              refine On_swap.1 ⟨btw_of_line (p2 := p2) hlt (by omega) (by omega) (by rw [cross_swap]; omega), by unfold btw; omega, by rw [cross_swap]; omega⟩
          · intro h
            have := h.2.2
            omega
        · have := Nat.mul_le_mul (show (p1 - a1).natAbs ≤ 2 ^ 23 by omega) (show (b2 - a2).natAbs ≤ 2 ^ 23 by omega)
          omega
        · have := Nat.mul_le_mul (show (p2 - a2).natAbs ≤ 2 ^ 23 by omega) (show (b1 - a1).natAbs ≤ 2 ^ 23 by omega)
          omega
  refine And.intro s1 (And.intro s2 ?_)
  intro r hr
  refine And.intro s3 (And.intro s4 ?_)
  intro q hq
  have hk := key r q hr hq
  refine And.intro ?_ ?_
  · intro h
    have ho := hk.1 h
    exact ⟨decide_eq_false (fun hh => hh.1 ho), decide_eq_true ho, trivial⟩
  · intro h
    refine And.intro ?_ ?_
    · intro ho
      rw [hk.2 ho] at h; cases h
    · exact ⟨rfl, rfl, rfl, rfl, rfl⟩

end

end Go.Proofs.Try.Sx
